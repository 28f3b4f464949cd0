/-
  'Rows.FnSeatsLeavesRosterAndTakesOnlyFreeNumbersSaid': the row.
-/
import Derived.Test.Qxb6601991aModsLeave1
namespace Go.Proofs.Qxb6601991aMods
open Go.ChangeShapes Go.WideShapes Go.ChangeAt Go.RowKit
set_option linter.unusedVariables false

set_option maxRecDepth 100000 in
set_option maxHeartbeats 4000000 in
theorem sl_len (a0 a1 a2 : Option Addr) (p m n c0 c1 c2 : Nat) (L : List (ByteArray × Int × Int)) (C : List (ByteArray × Int)) (N : List ByteArray) (w : World) (h0 : Row w a0 p 3 (L.flatMap memF)) (h1 : Row w a1 m 2 (C.flatMap srvF)) (h2 : Row w a2 n 1 (N.flatMap strF))
    (h : 4096 < p ∨ 4096 < m ∨ 4096 < n) :
    Calls Trym.prog 6 #[.slice a0 p c0, .slice a1 m c1, .slice a2 n c2] w fun e w' => e = .returned (.bool true) ∧ Below w.heap.size w w' := by
  have HB := hide (bytes35 a0 a1 a2 p m n c0 c1 c2 L C N w h0 h1 h2)
  clear h0 h1 h2
  have hx : 4096 < p ∨ (¬ 4096 < p ∧ 4096 < m) ∨ (¬ 4096 < p ∧ ¬ 4096 < m ∧ 4096 < n) := by omega
  rcases hx with h1 | ⟨h1, h2⟩ | ⟨h1, h2, h3⟩
  · have t1 : (4096 : Int) < p := by omega
    go_enter Trym.func6, Trym.ntmps6
    go_wp2_with fail
    refine HB.out.mono ?_
    rintro e w0 (⟨rfl, rfl⟩ | ⟨rfl, rfl⟩)
    · go_wp2
      go_ret
      exact ⟨rfl, Below.refl _ _⟩
    · go_wp2
      go_ret
      exact ⟨rfl, Below.refl _ _⟩
  · have t1 : (p : Int) ≤ 4096 := by omega
    have t2 : (4096 : Int) < m := by omega
    go_enter Trym.func6, Trym.ntmps6
    go_wp2_with fail
    refine HB.out.mono ?_
    rintro e w0 (⟨rfl, rfl⟩ | ⟨rfl, rfl⟩)
    · go_wp2
      go_ret
      exact ⟨rfl, Below.refl _ _⟩
    · go_wp2
      go_ret
      exact ⟨rfl, Below.refl _ _⟩
  · have t1 : (p : Int) ≤ 4096 := by omega
    have t2 : (m : Int) ≤ 4096 := by omega
    have t3 : (4096 : Int) < n := by omega
    go_enter Trym.func6, Trym.ntmps6
    go_wp2_with fail
    refine HB.out.mono ?_
    rintro e w0 (⟨rfl, rfl⟩ | ⟨rfl, rfl⟩)
    · go_wp2
      go_ret
      exact ⟨rfl, Below.refl _ _⟩
    · go_wp2
      go_ret
      exact ⟨rfl, Below.refl _ _⟩

theorem sl_walk (a0 a1 a2 : Option Addr) (p m n c0 c1 c2 : Nat) (L : List (ByteArray × Int × Int)) (C : List (ByteArray × Int)) (N : List ByteArray) (w : World) (h0 : Row w a0 p 3 (L.flatMap memF)) (h1 : Row w a1 m 2 (C.flatMap srvF)) (h2 : Row w a2 n 1 (N.flatMap strF)) (ha : a2 = none → n = 0 ∧ c2 = 0) :
    Calls Trym.prog 6 #[.slice a0 p c0, .slice a1 m c1, .slice a2 n c2] w fun e w' => e = .returned (.bool true) ∧ Below w.heap.size w w' := by
  by_cases h : 4096 < p ∨ 4096 < m ∨ 4096 < n
  · exact sl_len a0 a1 a2 p m n c0 c1 c2 L C N w h0 h1 h2 h
  · exact sl_main a0 a1 a2 p m n c0 c1 c2 L C N w h0 h1 h2 ha (by omega) (by omega) (by omega)

theorem sl_own : ownKnob Trym.prog.godebug = none := by kernel_rfl
theorem sl_laidOut : laidOutB Trym.prog = true := by kernel_rfl

set_option maxHeartbeats 1000000 in
set_option maxRecDepth 100000 in
theorem sl_lifted (os : Os) (started : os.Started) (H : Type) (enc : TypeId × Value → H) :
    ReturnsInHanded {} Trym.checked os 6 .any (Rows.fnSeatsLeavesRosterAndTakesOnlyFreeNumbersSpec.pre6 enc Trym.prog Trym.f6 Rows.fnSeatsLeavesRosterAndTakesOnlyFreeNumbersRow.domain false) (Rows.fnSeatsLeavesRosterAndTakesOnlyFreeNumbersSpec.post enc Trym.prog Trym.f6 false true false false) := by
  refine returnsInHanded_of_change (C := Trym.checked) sl_own started (by kernel_rfl) Trym.func6
    (ChangeSpec.witness6 (enc := enc) (C := Trym.checked) false ⟨#[], #[.slice none 0 0, .slice none 0 0, .slice none 0 0], []⟩ 8 (by kernel_rfl) (by kernel_rfl) (by kernel_rfl) (by kernel_rfl)) ?_
  intro W base args ds gs before hval0 hW hcnd _
  have hval : ∀ (j : Nat) t v, Trym.f6.params[j]? = some t → args[j]? = some v → Value.okWide Trym.prog W .any base t v := hval0
  have hW' := hW
  obtain ⟨p, q, hA0, hV, rfl, hfz, hnd⟩ := hW
  have hA : DataW.TrodAll enc Trym.prog W 0 (fun _ => true) true Trym.f6.params.toList args.toList ds p := hA0
  rw [Trym.params6] at hA hval
  obtain ⟨v0, vs0, d0, ds0, p0, q0, hargs, rfl, rfl, h0, r0⟩ := trodAll_cons hA
  obtain ⟨v1, vs1, d1, ds1, p1, q1, rfl, rfl, rfl, h1, r1⟩ := trodAll_cons r0
  obtain ⟨v2, vs2, d2, ds2, p2, q2, rfl, rfl, rfl, h2, r2⟩ := trodAll_cons r1
  obtain ⟨rfl, rfl, rfl⟩ := trodAll_nil r2
  obtain rfl : args = #[v0, v1, v2] := by cases args; simp_all
  obtain ⟨rfl, rfl⟩ := trodVars_none hV
  obtain ⟨a0, n0, c0, rfl⟩ := okWide_slice Trym.underlying45 (hval 0 45 v0 rfl rfl)
  obtain ⟨a1, n1, c1, rfl⟩ := okWide_slice Trym.underlying46 (hval 1 46 v1 rfl rfl)
  obtain ⟨a2, n2, c2, rfl⟩ := okWide_slice Trym.underlying47 (hval 2 47 v2 rfl rfl)
  have k0 := h0
  have k1 := h1
  have k2 := h2
  have lt0 : ∀ x ∈ p0, x.block < W.heap.size := by obtain ⟨m, hm⟩ := k0; exact DataW.trod_lt m _ _ _ hm
  have lt1 : ∀ x ∈ p1, x.block < W.heap.size := by obtain ⟨m, hm⟩ := k1; exact DataW.trod_lt m _ _ _ hm
  have lt2 : ∀ x ∈ p2, x.block < W.heap.size := by obtain ⟨m, hm⟩ := k2; exact DataW.trod_lt m _ _ _ hm
  obtain ⟨L1, g1⟩ : ∃ L : List (ByteArray × Int × Int), Row W a0 n0 3 (L.flatMap memF) := by
    obtain ⟨fuel, hf⟩ := h0
    obtain ⟨L, h, _⟩ := open_mems (by simpa [Value.cells] using hf)
    exact ⟨L, h⟩
  obtain ⟨L2, g2⟩ : ∃ L : List (ByteArray × Int), Row W a1 n1 2 (L.flatMap srvF) := by
    obtain ⟨fuel, hf⟩ := h1
    exact open_srvs (by simpa [Value.cells] using hf)
  obtain ⟨L3, g3, hn3⟩ : ∃ L : List ByteArray, Row W a2 n2 1 (L.flatMap strF) ∧ (a2 = none → n2 = 0 ∧ c2 = 0) := by
    obtain ⟨fuel, hf⟩ := h2
    exact open_strs (by simpa [Value.cells] using hf)
  clear hA0 hval0
  refine (sl_walk a0 a1 a2 n0 n1 n2 c0 c1 c2 L1 L2 L3 W g1 g2 g3 hn3).mono fun e W' ⟨he, bel⟩ => ?_
  subst he
  exact ⟨_, rfl, _, _, _, [], _, [], hW', trodAll_mk1 (shut_bool Trym.underlying4 _), (trodAll_cons_mk (Below.trod sl_laidOut (by kernel_rfl) (of_decide_eq_true (by kernel_rfl)) k0 bel lt0) (trodAll_cons_mk (Below.trod sl_laidOut (by kernel_rfl) (of_decide_eq_true (by kernel_rfl)) k1 bel lt1) (trodAll_cons_mk (Below.trod sl_laidOut (by kernel_rfl) (of_decide_eq_true (by kernel_rfl)) k2 bel lt2) trodAll_mk0))), rfl, bel.frame _, fun h => by cases h⟩

theorem sl_over : Rows.fnSeatsLeavesRosterAndTakesOnlyFreeNumbersRow.holds Trym.pinned (OpenSpec.ofChange Rows.fnSeatsLeavesRosterAndTakesOnlyFreeNumbersSpec) :=
  OpenClaim.holds_of_wide 6 Trym.f6 rfl rfl rfl rfl rfl rfl rfl ⟨rfl, rfl, rfl, rfl, rfl⟩ rfl rfl rfl rfl rfl (by kernel_rfl) Trym.func6 (by kernel_rfl)
    (of_decide_eq_true (by kernel_rfl)) (by unfold Func.isWrapper; first | (rw [if_pos (by decide +kernel)]; kernel_rfl) | (rw [if_neg (by decide +kernel)]; exact ⟨rfl, rfl⟩))
    (fun os started H enc _ => sl_lifted os started H enc)

theorem fnSeatsLeaves_proved : Rows.FnSeatsLeavesRosterAndTakesOnlyFreeNumbersSaid := sl_over
end Go.Proofs.Qxb6601991aMods
