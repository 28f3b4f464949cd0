/-
  'Rows.FnLiteralsHeadersPrefixFreeSaid'.
-/
import Derived.Test.Qxb6601950aModsHdr
import Derived.Test.Qxb6601950aModsPre
import Derived.OpenShut
import Derived.ChangeOld
import Derived.Below
namespace Go.Proofs.Qxb6601950aMods
open Go.ChangeShapes Go.WideShapes Go.ChangeAt Go.RowKit
set_option linter.unusedVariables false

/-! ### The plain law -/
theorem hdr_len (k m : Int) : 1 ≤ (hdr k m).length ∧ (hdr k m).length ≤ 3 := by
  unfold hdr; split
  · simp
  · split <;> simp
theorem isPre_self : ∀ A : List Int, isPre A A = true
  | [] => rfl
  | a :: r => by simp [isPre, isPre_self r]
theorem hdr_pre (k1 m1 k2 m2 : Int) (a1 : 0 ≤ k1) (a2 : k1 ≤ 3) (b1 : 0 ≤ k2) (b2 : k2 ≤ 3) (c1 : 0 ≤ m1) (c2 : m1 < 1048576) (d1 : 0 ≤ m2) (d2 : m2 < 1048576)
    (h : isPre (hdr k1 m1) (hdr k2 m2) = true) : k1 = k2 ∧ m1 = m2 := by
  unfold hdr at h
  split at h
  · split at h
    · simp [isPre] at h; omega
    · split at h
      · simp [isPre] at h; omega
      · simp [isPre] at h; omega
  · split at h
    · split at h
      · simp [isPre] at h
      · split at h
        · simp [isPre] at h; omega
        · simp [isPre] at h; omega
    · split at h
      · simp [isPre] at h
      · split at h
        · simp [isPre] at h
        · simp [isPre] at h; omega

/-! ### What an owned row of bytes looks like -/
theorem own_shape {w : World} {base n : Nat} {v : Value} {l : List Int} (h : w.ownsRow base 5 1 v (n + (l.map (Value.int .u8)).length) (([] : List Value) ++ l.map (Value.int .u8))) (hn : n = 0) (hl : 1 ≤ l.length) :
    ∃ g cap, v = .slice (some ⟨g, 0, none⟩) l.length cap ∧ base ≤ g ∧ ∀ j, j < l.length → w.cell? ⟨g, j, none⟩ = some (.int .u8 (l.getD j 0)) := by
  subst hn
  rw [Nat.zero_add, List.nil_append, List.length_map] at h
  rcases h.2 with ⟨_, h0⟩ | ⟨g, cap, cur, rfl, hb, _⟩
  · omega
  · refine ⟨g, cap, rfl, hb, fun j hj => ?_⟩
    rw [h.cellAt j (by omega)]
    simp [List.getElem?_map, List.getElem?_eq_getElem hj, List.getD_eq_getElem?_getD]

theorem wf_u32 {x : Int} (h : (Lit.int .u32 x).wf = true) : 0 ≤ x ∧ x ≤ 4294967295 := by
  simp [Lit.wf, IntKind.min, IntKind.max, IntKind.signed, IntKind.bits] at h
  omega

theorem own_ne (v : Value) : v.ownBlock = none ∨ v.ownBlock ≠ (Value.slice none 0 0).ownBlock := by
  by_cases h : v.ownBlock = none
  · exact .inl h
  · exact .inr h

theorem ret_true {v : Value} (h : v = .bool true) : Ending.returned v = .returned (.bool true) := by rw [h]
theorem below_draws {B : Nat} {a w : World} (h : Below B a w) (q : Nat) : Below B a (w.drewN q) := ⟨h.os, h.tape, h.output, h.size, h.block⟩

/-! ### The walk -/
theorem pf_kind (a0 a1 a2 a3 : Int) (w : World) (h : 3 < a0 ∨ 3 < a2) :
    Calls Trym.prog 4 #[.int .u32 a0, .int .i64 a1, .int .u32 a2, .int .i64 a3] w fun e w' => e = .returned (.bool true) ∧ Below w.heap.size w w' := by
  by_cases h1 : 3 < a0
  · go_enter Trym.func4, Trym.ntmps4
    go_wp2
    go_ret
    exact ⟨rfl, by go_grown⟩
  · have h2 : 3 < a2 := by omega
    go_enter Trym.func4, Trym.ntmps4
    go_wp2
    go_ret
    exact ⟨rfl, by go_grown⟩
theorem pf_size (a0 a1 a2 a3 : Int) (w : World) (h0 : a0 ≤ 3) (h2 : a2 ≤ 3) (h : a1 < 0 ∨ 1048576 ≤ a1 ∨ a3 < 0 ∨ 1048576 ≤ a3) :
    Calls Trym.prog 4 #[.int .u32 a0, .int .i64 a1, .int .u32 a2, .int .i64 a3] w fun e w' => e = .returned (.bool true) ∧ Below w.heap.size w w' := by
  by_cases h1 : a1 < 0
  · go_enter Trym.func4, Trym.ntmps4
    go_wp2
    go_ret
    exact ⟨rfl, by go_grown⟩
  by_cases h3 : 1048576 ≤ a1
  · go_enter Trym.func4, Trym.ntmps4
    go_wp2
    go_ret
    exact ⟨rfl, by go_grown⟩
  by_cases h4 : a3 < 0
  · go_enter Trym.func4, Trym.ntmps4
    go_wp2
    go_ret
    exact ⟨rfl, by go_grown⟩
  · have h5 : 1048576 ≤ a3 := by omega
    go_enter Trym.func4, Trym.ntmps4
    go_wp2
    go_ret
    exact ⟨rfl, by go_grown⟩

set_option maxHeartbeats 1000000 in
theorem pf_same (k m : Int) (w : World) (a1 : 0 ≤ k) (a2 : k ≤ 3) (c1 : 0 ≤ m) (c2 : m < 1048576) :
    Calls Trym.prog 4 #[.int .u32 k, .int .i64 m, .int .u32 k, .int .i64 m] w fun e w' => e = .returned (.bool true) ∧ Below w.heap.size w w' := by
  go_enter Trym.func4, Trym.ntmps4
  go_wp2_with fail
  refine (zzapp_any w.heap.size (.slice none 0 0) 0 [] w k m (World.ownsRow_nil _ _ _ _) a1 a2 (Nat.le_refl _) (by omega) c1 c2).mono ?_
  rintro e w1 ⟨v1, rfl, o1, g1⟩
  go_wp2_with fail
  refine (zzapp_any w.heap.size (.slice none 0 0) 0 [] w1 k m (World.ownsRow_nil _ _ _ _) a1 a2 g1.size (by omega) c1 c2).mono ?_
  rintro e w2 ⟨v2, rfl, o2, g2⟩
  have o1' := o1.kept g2 (own_ne v1)
  obtain ⟨x1, y1, rfl, hb1, hc1⟩ := own_shape o1' rfl (hdr_len k m).1
  obtain ⟨x2, y2, rfl, hb2, hc2⟩ := own_shape o2 rfl (hdr_len k m).1
  have HB : Hid (Below w.heap.size w w2) := ((Below.refl _ _).grown g1 (Nat.le_refl _) (fun _ h => by cases h)).grown g2 g1.size (fun _ h => by cases h)
  have hl := (hdr_len k m).2
  have HC1 := hide hc1
  have HC2 := hide hc2
  clear o1 o1' o2 g1 g2 hc1 hc2
  have HS := hide (isPre_self (hdr k m))
  generalize hdr k m = A at *
  go_wp2_with fail
  refine (prefix_any x1 x2 _ _ y1 y2 A A w2 rfl rfl (by omega) (by omega) HC1.out HC2.out).mono ?_
  rintro e w3 ⟨rfl, q, rfl⟩
  rw [HS.out]
  go_wp2
  go_ret
  exact ⟨ret_true (by simp), below_draws HB.out _⟩

set_option maxHeartbeats 1000000 in
theorem pf_other (k m k' m' : Int) (w : World) (a1 : 0 ≤ k) (a2 : k ≤ 3) (b1 : 0 ≤ k') (b2 : k' ≤ 3) (c1 : 0 ≤ m) (c2 : m < 1048576) (d1 : 0 ≤ m') (d2 : m' < 1048576)
    (hne : (k == k') = false ∨ (k = k' ∧ (m == m') = false)) :
    Calls Trym.prog 4 #[.int .u32 k, .int .i64 m, .int .u32 k', .int .i64 m'] w fun e w' => e = .returned (.bool true) ∧ Below w.heap.size w w' := by
  have HN : ¬ (k = k' ∧ m = m') := fun h => by rcases hne with hne | ⟨_, hne⟩ <;> simp [h.1, h.2] at hne
  have HS1 := hide (Bool.eq_false_iff.2 fun h => HN (hdr_pre k m k' m' a1 a2 b1 b2 c1 c2 d1 d2 h))
  have HS2 := hide (Bool.eq_false_iff.2 fun h => HN (have t := hdr_pre k' m' k m b1 b2 a1 a2 d1 d2 c1 c2 h; ⟨t.1.symm, t.2.symm⟩))
  clear HN
  rcases hne with hne | ⟨rfl, hne⟩
  all_goals
    go_enter Trym.func4, Trym.ntmps4
    go_wp2_with fail
    refine (zzapp_any w.heap.size (.slice none 0 0) 0 [] w _ m (World.ownsRow_nil _ _ _ _) a1 a2 (Nat.le_refl _) (by omega) c1 c2).mono ?_
    rintro e w1 ⟨v1, rfl, o1, g1⟩
    go_wp2_with fail
    refine (zzapp_any w.heap.size (.slice none 0 0) 0 [] w1 _ m' (World.ownsRow_nil _ _ _ _) b1 b2 g1.size (by omega) d1 d2).mono ?_
    rintro e w2 ⟨v2, rfl, o2, g2⟩
    have o1' := o1.kept g2 (own_ne v1)
    obtain ⟨x1, y1, rfl, hb1, hc1⟩ := own_shape o1' rfl (hdr_len _ m).1
    obtain ⟨x2, y2, rfl, hb2, hc2⟩ := own_shape o2 rfl (hdr_len _ m').1
    have HB : Hid (Below w.heap.size w w2) := ((Below.refl _ _).grown g1 (Nat.le_refl _) (fun _ h => by cases h)).grown g2 g1.size (fun _ h => by cases h)
    have HC1 := hide hc1
    have HC2 := hide hc2
    clear o1 o1' o2 g1 g2 hc1 hc2
    have hl := (hdr_len k m).2
    obtain ⟨B, hB, hl'⟩ : ∃ B, B = hdr _ m' ∧ B.length ≤ 3 := ⟨_, rfl, (hdr_len _ m').2⟩
    rw [← hB] at HC2 HS1 HS2 ⊢
    clear hB
    generalize hdr k m = A at *
    go_wp2_with fail
    refine (prefix_any x1 x2 _ _ y1 y2 A B w2 rfl rfl (by omega) (by omega) HC1.out HC2.out).mono ?_
    rintro e w3 ⟨rfl, q, rfl⟩
    rw [HS1.out]
    go_wp2_with fail
    refine (prefix_any x2 x1 _ _ y2 y1 B A (w2.drewN q) rfl rfl (by omega) (by omega) HC2.out HC1.out).mono ?_
    rintro e w4 ⟨rfl, q', rfl⟩
    rw [HS2.out]
    go_wp2
    go_ret
    exact ⟨ret_true (by simp), below_draws HB.out _⟩

theorem pf_walk (a0 a1 a2 a3 : Int) (w : World) (k0 : 0 ≤ a0) (k2 : 0 ≤ a2) :
    Calls Trym.prog 4 #[.int .u32 a0, .int .i64 a1, .int .u32 a2, .int .i64 a3] w fun e w' => e = .returned (.bool true) ∧ Below w.heap.size w w' := by
  by_cases h : 3 < a0 ∨ 3 < a2
  · exact pf_kind a0 a1 a2 a3 w h
  by_cases h' : a1 < 0 ∨ 1048576 ≤ a1 ∨ a3 < 0 ∨ 1048576 ≤ a3
  · exact pf_size a0 a1 a2 a3 w (by omega) (by omega) h'
  by_cases hk : a0 = a2
  · by_cases hm : a1 = a3
    · subst hk; subst hm
      exact pf_same a0 a1 w k0 (by omega) (by omega) (by omega)
    · exact pf_other a0 a1 a2 a3 w k0 (by omega) k2 (by omega) (by omega) (by omega) (by omega) (by omega) (.inr ⟨hk, by simp [hm]⟩)
  · exact pf_other a0 a1 a2 a3 w k0 (by omega) k2 (by omega) (by omega) (by omega) (by omega) (by omega) (.inl (by simp [hk]))

/-! ### The row -/
theorem pf_own : ownKnob Trym.prog.godebug = none := by kernel_rfl

set_option maxRecDepth 100000 in
theorem pf_lifted (os : Os) (started : os.Started) (H : Type) (enc : TypeId × Value → H) :
    ReturnsInHanded {} Trym.checked os 4 .any (Rows.fnLiteralsHeadersPrefixFreeSpec.pre6 enc Trym.prog Trym.f4 Rows.fnLiteralsHeadersPrefixFreeRow.domain false) (Rows.fnLiteralsHeadersPrefixFreeSpec.post enc Trym.prog Trym.f4 false true false false) := by
  refine returnsInHanded_of_change (C := Trym.checked) pf_own started (by kernel_rfl) Trym.func4
    (ChangeSpec.witness6 (enc := enc) (C := Trym.checked) false ⟨#[], #[.int .u32 0, .int .i64 0, .int .u32 0, .int .i64 0], []⟩ 8 (by kernel_rfl) (by kernel_rfl) (by kernel_rfl) (by kernel_rfl)) ?_
  intro W base args ds gs before hval0 hW hcnd _
  have hval : ∀ (j : Nat) t v, Trym.f4.params[j]? = some t → args[j]? = some v → Value.okWide Trym.prog W .any base t v := hval0
  have hW' := hW
  obtain ⟨p, q, hA0, hV, rfl, hfz, hnd⟩ := hW
  have hA : DataW.TrodAll enc Trym.prog W 0 (fun _ => true) true Trym.f4.params.toList args.toList ds p := hA0
  rw [Trym.params4] at hA hval
  obtain ⟨v0, vs0, d0, ds0, p0, q0, hargs, rfl, rfl, h0, r0⟩ := trodAll_cons hA
  obtain ⟨v1, vs1, d1, ds1, p1, q1, rfl, rfl, rfl, h1, r1⟩ := trodAll_cons r0
  obtain ⟨v2, vs2, d2, ds2, p2, q2, rfl, rfl, rfl, h2, r2⟩ := trodAll_cons r1
  obtain ⟨v3, vs3, d3, ds3, p3, q3, rfl, rfl, rfl, h3, r3⟩ := trodAll_cons r2
  obtain ⟨rfl, rfl, rfl⟩ := trodAll_nil r3
  obtain rfl : args = #[v0, v1, v2, v3] := by cases args; simp_all
  obtain ⟨rfl, rfl⟩ := trodVars_none hV
  obtain ⟨a0, rfl, rfl, rfl, w0⟩ := open_int Trym.underlying23 (hval 0 23 v0 rfl rfl) h0
  obtain ⟨a1, rfl, rfl, rfl, w1⟩ := open_int Trym.underlying3 (hval 1 3 v1 rfl rfl) h1
  obtain ⟨a2, rfl, rfl, rfl, w2⟩ := open_int Trym.underlying23 (hval 2 23 v2 rfl rfl) h2
  obtain ⟨a3, rfl, rfl, rfl, w3⟩ := open_int Trym.underlying3 (hval 3 3 v3 rfl rfl) h3
  clear hA0 hval0
  refine (pf_walk a0 a1 a2 a3 W (wf_u32 w0).1 (wf_u32 w2).1).mono fun e W' ⟨he, bel⟩ => ?_
  subst he
  exact ⟨_, rfl, _, _, _, [], _, [], hW', trodAll_mk1 (shut_bool Trym.underlying4 _), (trodAll_cons_mk (shut_int Trym.underlying23 w0) (trodAll_cons_mk (shut_int Trym.underlying3 w1) (trodAll_cons_mk (shut_int Trym.underlying23 w2) (trodAll_cons_mk (shut_int Trym.underlying3 w3) trodAll_mk0)))), rfl, bel.frame _, fun h => by cases h⟩

theorem pf_over : Rows.fnLiteralsHeadersPrefixFreeRow.holds Trym.pinned (OpenSpec.ofChange Rows.fnLiteralsHeadersPrefixFreeSpec) :=
  OpenClaim.holds_of_wide 4 Trym.f4 rfl rfl rfl rfl rfl rfl rfl ⟨rfl, rfl, rfl, rfl, rfl⟩ rfl rfl rfl rfl rfl (by kernel_rfl) Trym.func4 (by kernel_rfl)
    (of_decide_eq_true (by kernel_rfl)) (by unfold Func.isWrapper; first | (rw [if_pos (by decide +kernel)]; kernel_rfl) | (rw [if_neg (by decide +kernel)]; exact ⟨rfl, rfl⟩))
    (fun os started H enc _ => pf_lifted os started H enc)

theorem fnLiteralsHeadersPrefixFree_proved : Rows.FnLiteralsHeadersPrefixFreeSaid := pf_over
end Go.Proofs.Qxb6601950aMods
