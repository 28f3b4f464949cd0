/-
  'Rows.FnNextRepsFollowsRFCSaid': the law's walk (every way through it written out: seven cases) and the row over it.
-/
import Derived.Test.Qxb6601950aModsRows
import Derived.WalkKit
import Derived.ProofKit
import Derived.OpenShut
import Derived.Handy
import Derived.ChangeOld
import Derived.Below
import Derived.Laws.IdiomArrays
namespace Go.Proofs.Qxb6601950aMods.fnNextRepsFollowsRFC
open Go.ChangeShapes Go.WideShapes Go.ChangeAt Go.RowKit

theorem own : ownKnob Trym.prog.godebug = none := by kernel_rfl
theorem laidOut : laidOutB Trym.prog = true := by kernel_rfl
theorem cells31 : Trym.prog.cellsOf 31 = 3 := by kernel_rfl
theorem cells23 : Trym.prog.cellsOf 23 = 1 := by kernel_rfl

/-! ### '==' on two arrays of three uint32 that are the same -/
theorem pt0 (a b c : Value) (w : World) : (part 23 #[a, b, c] 0).run Trym.prog w = .ok a w := by kernel_rfl
theorem pt1 (a b c : Value) (w : World) : (part 23 #[a, b, c] 1).run Trym.prog w = .ok b w := by kernel_rfl
theorem pt2 (a b c : Value) (w : World) : (part 23 #[a, b, c] 2).run Trym.prog w = .ok c w := by kernel_rfl
theorem eqArr' (d : Nat) (a b c : Int) (w : World) : Sem.run Trym.prog (Op.equalIn (d + 2) 31 (Value.agg #[.int .u32 a, .int .u32 b, .int .u32 c]) (Value.agg #[.int .u32 a, .int .u32 b, .int .u32 c])) w = .ok true w := by
  rw [Op.equalIn]
  simp [run_underlying Trym.underlying31, Std.Legacy.Range.forIn_eq_forIn_range', List.range', pt0, pt1, pt2, Std.Legacy.Range.size, run_equalIn_int _ d 23 .u32 .u32 _ _ Trym.underlying23]
theorem eqArr (a b c : Int) (w : World) : Sem.run Trym.prog (Op.equalIn 10000 31 (Value.agg #[.int .u32 a, .int .u32 b, .int .u32 c]) (Value.agg #[.int .u32 a, .int .u32 b, .int .u32 c])) w = .ok true w := eqArr' 9998 a b c w

/-! ### The walk, a case a theorem -/
section
variable (r0 r1 r2 : Int) (w : World)

theorem walk0 (ll : Bool) :
    Calls Trym.prog 5 #[.agg #[.int .u32 r0, .int .u32 r1, .int .u32 r2], .int .u32 0, .bool ll] w fun e w' => e = .returned (.bool true) ∧ Below w.heap.size w w' := by
  go_enter Trym.func5, Trym.ntmps5
  go_wp2
  go_returns
  exact ⟨rfl, by go_grown⟩

set_option maxHeartbeats 1000000 in
theorem walkBig (off : Int) (ll : Bool) (h : 3 < off) (h2 : off ≤ 4294967295) :
    Calls Trym.prog 5 #[.agg #[.int .u32 r0, .int .u32 r1, .int .u32 r2], .int .u32 off, .bool ll] w fun e w' => e = .returned (.bool true) ∧ Below w.heap.size w w' := by
  have h0 : (off == 0) = false := by simp; omega
  have he := eqArr (off - 3) r0 r1
  go_enter Trym.func5, Trym.ntmps5
  go_wp2
  refine wp_loop_rounds 4 ?_
  rw [rounds_succ]; go_wp2
  rw [rounds_succ]; go_wp2
  rw [rounds_succ]; go_wp2
  rw [rounds_succ]; go_wp2
  go_returns
  exact ⟨rfl, by go_grown⟩

set_option maxHeartbeats 1000000 in
theorem walk1f :
    Calls Trym.prog 5 #[.agg #[.int .u32 r0, .int .u32 r1, .int .u32 r2], .int .u32 1, .bool false] w fun e w' => e = .returned (.bool true) ∧ Below w.heap.size w w' := by
  have he := eqArr r0 r1 r2
  go_enter Trym.func5, Trym.ntmps5
  go_wp2
  refine wp_loop_rounds 4 ?_
  rw [rounds_succ]; go_wp2
  rw [rounds_succ]; go_wp2
  rw [rounds_succ]; go_wp2
  rw [rounds_succ]; go_wp2
  go_returns
  exact ⟨rfl, by go_grown⟩

set_option maxHeartbeats 1000000 in
theorem walk2f :
    Calls Trym.prog 5 #[.agg #[.int .u32 r0, .int .u32 r1, .int .u32 r2], .int .u32 2, .bool false] w fun e w' => e = .returned (.bool true) ∧ Below w.heap.size w w' := by
  have he := eqArr r1 r0 r2
  go_enter Trym.func5, Trym.ntmps5
  go_wp2
  refine wp_loop_rounds 4 ?_
  rw [rounds_succ]; go_wp2
  rw [rounds_succ]; go_wp2
  rw [rounds_succ]; go_wp2
  rw [rounds_succ]; go_wp2
  go_returns
  exact ⟨rfl, by go_grown⟩

set_option maxHeartbeats 1000000 in
theorem walk3f :
    Calls Trym.prog 5 #[.agg #[.int .u32 r0, .int .u32 r1, .int .u32 r2], .int .u32 3, .bool false] w fun e w' => e = .returned (.bool true) ∧ Below w.heap.size w w' := by
  have he := eqArr r2 r0 r1
  go_enter Trym.func5, Trym.ntmps5
  go_wp2
  refine wp_loop_rounds 4 ?_
  rw [rounds_succ]; go_wp2
  rw [rounds_succ]; go_wp2
  rw [rounds_succ]; go_wp2
  rw [rounds_succ]; go_wp2
  go_returns
  exact ⟨rfl, by go_grown⟩

set_option maxHeartbeats 1000000 in
theorem walk1t :
    Calls Trym.prog 5 #[.agg #[.int .u32 r0, .int .u32 r1, .int .u32 r2], .int .u32 1, .bool true] w fun e w' => e = .returned (.bool true) ∧ Below w.heap.size w w' := by
  have he := eqArr r1 r0 r2
  go_enter Trym.func5, Trym.ntmps5
  go_wp2
  refine wp_loop_rounds 4 ?_
  rw [rounds_succ]; go_wp2
  rw [rounds_succ]; go_wp2
  rw [rounds_succ]; go_wp2
  rw [rounds_succ]; go_wp2
  go_returns
  exact ⟨rfl, by go_grown⟩

set_option maxHeartbeats 1000000 in
theorem walk2t :
    Calls Trym.prog 5 #[.agg #[.int .u32 r0, .int .u32 r1, .int .u32 r2], .int .u32 2, .bool true] w fun e w' => e = .returned (.bool true) ∧ Below w.heap.size w w' := by
  have he := eqArr r2 r0 r1
  go_enter Trym.func5, Trym.ntmps5
  go_wp2
  refine wp_loop_rounds 4 ?_
  rw [rounds_succ]; go_wp2
  rw [rounds_succ]; go_wp2
  rw [rounds_succ]; go_wp2
  rw [rounds_succ]; go_wp2
  go_returns
  exact ⟨rfl, by go_grown⟩

set_option maxHeartbeats 1000000 in
theorem walk3t :
    Calls Trym.prog 5 #[.agg #[.int .u32 r0, .int .u32 r1, .int .u32 r2], .int .u32 3, .bool true] w fun e w' => e = .returned (.bool true) ∧ Below w.heap.size w w' := by
  have he := fun x => eqArr x r0 r1
  go_enter Trym.func5, Trym.ntmps5
  go_wp2
  refine wp_loop_rounds 4 ?_
  rw [rounds_succ]; go_wp2
  rw [rounds_succ]; go_wp2
  rw [rounds_succ]; go_wp2
  rw [rounds_succ]; go_wp2
  go_returns
  exact ⟨rfl, by go_grown⟩

theorem walk (off : Int) (ll : Bool) (h0 : 0 ≤ off) (h2 : off ≤ 4294967295) :
    Calls Trym.prog 5 #[.agg #[.int .u32 r0, .int .u32 r1, .int .u32 r2], .int .u32 off, .bool ll] w fun e w' => e = .returned (.bool true) ∧ Below w.heap.size w w' := by
  by_cases hb : 3 < off
  · exact walkBig r0 r1 r2 w off ll hb h2
  · have h4 : off = 0 ∨ off = 1 ∨ off = 2 ∨ off = 3 := by omega
    rcases h4 with h4 | h4 | h4 | h4 <;> subst h4
    · exact walk0 r0 r1 r2 w ll
    · cases ll
      · exact walk1f r0 r1 r2 w
      · exact walk1t r0 r1 r2 w
    · cases ll
      · exact walk2f r0 r1 r2 w
      · exact walk2t r0 r1 r2 w
    · cases ll
      · exact walk3f r0 r1 r2 w
      · exact walk3t r0 r1 r2 w
end

/-! ### The row -/
theorem list3 {α : Type} (l : List α) (h : (⟨l⟩ : Array α).size = 3) : ∃ a b c, l = [a, b, c] := by
  match l, h with
  | [a, b, c], _ => exact ⟨a, b, c, rfl⟩

set_option maxHeartbeats 400000 in
set_option maxRecDepth 100000 in
theorem lifted (os : Os) (started : os.Started) (H : Type) (enc : TypeId × Value → H) :
    ReturnsInHanded {} Trym.checked os 5 .any (Rows.fnNextRepsFollowsRFCSpec.pre6 enc Trym.prog Trym.f5 Rows.fnNextRepsFollowsRFCRow.domain false) (Rows.fnNextRepsFollowsRFCSpec.post enc Trym.prog Trym.f5 false true false false) := by
  refine returnsInHanded_of_change (C := Trym.checked) own started (by kernel_rfl) Trym.func5
    (ChangeSpec.witness6 (enc := enc) (C := Trym.checked) false ⟨#[], #[.agg #[.int .u32 0, .int .u32 0, .int .u32 0], .int .u32 0, .bool false], []⟩ 8 (by kernel_rfl) (by kernel_rfl) (by kernel_rfl) (by kernel_rfl)) ?_
  intro W base args ds gs before hval0 hW hcnd _
  have hval : ∀ (j : Nat) t v, Trym.f5.params[j]? = some t → args[j]? = some v → Value.okWide Trym.prog W .any base t v := hval0
  have hW' := hW
  obtain ⟨p, q, hA0, hV, rfl, hfz, hnd⟩ := hW
  have hA : DataW.TrodAll enc Trym.prog W 0 (fun _ => true) true Trym.f5.params.toList args.toList ds p := hA0
  rw [Trym.params5] at hA hval
  obtain ⟨v0, vs0, d0, ds0, p0, q0, hargs, rfl, rfl, h0, r0⟩ := trodAll_cons hA
  obtain ⟨v1, vs1, d1, ds1, p1, q1, rfl, rfl, rfl, h1, r1⟩ := trodAll_cons r0
  obtain ⟨v2, vs2, d2, ds2, p2, q2, rfl, rfl, rfl, h2, r2⟩ := trodAll_cons r1
  obtain ⟨rfl, rfl, rfl⟩ := trodAll_nil r2
  obtain rfl : args = #[v0, v1, v2] := by cases args; simp_all
  obtain ⟨rfl, rfl⟩ := trodVars_none hV
  have k0 := h0
  have lt0 : ∀ x ∈ p0, x.block < W.heap.size := by obtain ⟨m, hm⟩ := k0; exact DataW.trod_lt m _ _ _ hm
  obtain ⟨cs, rfl, hsz, _⟩ : ∃ cs, v0 = .agg cs ∧ cs.size = Trym.prog.cellsOf 31 ∧ Row.okWide Trym.prog W .any base 31 cs := by
    have := hval 0 31 v0 rfl rfl
    simpa [Value.okWide, Trym.underlying31] using this
  rw [cells31] at hsz
  obtain ⟨l⟩ := cs
  obtain ⟨c0, c1, c2, rfl⟩ := list3 l hsz
  obtain ⟨fuel, hf⟩ := h0
  obtain ⟨y0, y1, y2, m, hx, hy0, hy1, hy2⟩ := trod_array3 Trym.underlying31 cells23 hf
  obtain ⟨x0, e0, rfl, z0⟩ := DataW.trod_int Trym.underlying23 hy0
  obtain ⟨x1, e1, rfl, z1⟩ := DataW.trod_int Trym.underlying23 hy1
  obtain ⟨x2, e2, rfl, z2⟩ := DataW.trod_int Trym.underlying23 hy2
  simp at e0 e1 e2
  subst e0 e1 e2
  obtain ⟨a1, rfl, rfl, rfl, w1⟩ := open_int Trym.underlying23 (hval 1 23 v1 rfl rfl) h1
  obtain ⟨a2, rfl, rfl, rfl⟩ := open_bool Trym.underlying4 (hval 2 4 v2 rfl rfl) h2
  clear hA0 hval0
  have bw : 0 ≤ a1 ∧ a1 ≤ 4294967295 := by
    have w1' := w1
    simp [Lit.wf, IntKind.min, IntKind.max, IntKind.signed, IntKind.bits] at w1'
    omega
  refine (walk x0 x1 x2 W a1 a2 bw.1 bw.2).mono fun e W' ⟨he, bel⟩ => ?_
  subst he
  exact ⟨_, rfl, _, _, _, [], _, [], hW', trodAll_mk1 (shut_bool Trym.underlying4 _), (trodAll_cons_mk (Below.trod laidOut (by kernel_rfl) (of_decide_eq_true (by kernel_rfl)) k0 bel lt0) (trodAll_cons_mk (shut_int Trym.underlying23 w1) (trodAll_cons_mk (shut_bool Trym.underlying4 a2) trodAll_mk0))), rfl, bel.frame _, fun h => by cases h⟩

theorem over : Rows.fnNextRepsFollowsRFCRow.holds Trym.pinned (OpenSpec.ofChange Rows.fnNextRepsFollowsRFCSpec) :=
  OpenClaim.holds_of_wide 5 Trym.f5 rfl rfl rfl rfl rfl rfl rfl ⟨rfl, rfl, rfl, rfl, rfl⟩ rfl rfl rfl rfl rfl (by kernel_rfl) Trym.func5 (by kernel_rfl)
    (of_decide_eq_true (by kernel_rfl)) (by unfold Func.isWrapper; first | (rw [if_pos (by decide +kernel)]; kernel_rfl) | (rw [if_neg (by decide +kernel)]; exact ⟨rfl, rfl⟩))
    (fun os started H enc _ => lifted os started H enc)

end Go.Proofs.Qxb6601950aMods.fnNextRepsFollowsRFC
namespace Go.Proofs.Qxb6601950aMods
theorem fnNextRepsFollowsRFC_proved : Rows.FnNextRepsFollowsRFCSaid := fnNextRepsFollowsRFC.over
end Go.Proofs.Qxb6601950aMods
