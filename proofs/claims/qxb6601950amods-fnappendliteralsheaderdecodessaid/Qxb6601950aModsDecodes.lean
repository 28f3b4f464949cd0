/-
  'Rows.FnAppendLiteralsHeaderDecodesSaid'.
-/
import Derived.Test.Qxb6601950aModsDec
namespace Go.Proofs.Qxb6601950aMods
open Go.ChangeShapes Go.WideShapes Go.ChangeAt Go.RowKit
set_option linter.unusedVariables false

/-- A slice of bytes that came in: nil, or an address with its bytes. -/
def Src (w : World) (a : Option Addr) (n : Nat) (c : Nat) (L : List Int) : Prop :=
  (a = none ∧ n = 0 ∧ c = 0 ∧ L = []) ∨ ∃ x, a = some x ∧ L.length = n ∧ ∀ j u, (L.map (Value.int .u8))[j]? = some u → w.cell? (x.add j) = some u

theorem clone_any (a : Option Addr) (n c : Nat) (L : List Int) (w : World) (h : Src w a n c L) (hn : n ≤ 1048576) :
    Calls Trym.prog 9 #[.slice a n c] w fun e w' => ∃ v', e = .returned v' ∧ w'.ownsRow w.heap.size 5 1 v' n (L.map (Value.int .u8)) ∧ w.grownBy w' none := by
  rcases h with ⟨rfl, rfl, rfl, rfl⟩ | ⟨x, rfl, hL, hc⟩
  · refine (clone_nil w).mono ?_
    rintro e w' ⟨rfl, rfl⟩
    exact ⟨_, rfl, World.ownsRow_nil _ _ _ _, World.grownBy.refl _ _⟩
  · exact clone_some x n c L w hL hn hc

theorem own_src {w : World} {base n : Nat} {v : Value} {L : List Int} (h : w.ownsRow base 5 1 v n (L.map (Value.int .u8))) : ∃ a c, v = .slice a n c ∧ Src w a n c L ∧ (∀ g, a = some g → g.spot = none ∧ g.off = 0 ∧ base ≤ g.block ∧ g.block < w.heap.size) ∧ n ≤ c := by
  have hb := h.lt
  have hc := @World.ownsRow.cells w base 5 1 v n _ h
  have hl := h.1
  rcases h.2 with ⟨rfl, rfl⟩ | ⟨g, cap, cur, rfl, hb', _, hnc, _⟩
  · refine ⟨none, 0, rfl, .inl ⟨rfl, rfl, rfl, by simpa using hl⟩, fun g hg => absurd hg (by simp), Nat.le_refl _⟩
  · refine ⟨some ⟨g, 0, none⟩, cap, rfl, .inr ⟨_, rfl, by simpa using hl, hc rfl⟩, fun x hx => ?_, hnc⟩
    cases hx
    exact ⟨rfl, rfl, (hb g rfl).1, (hb g rfl).2⟩

theorem hdr_cases (k m : Int) : (hdr k m).length = 1 ∨ ((hdr k m).length = 2 ∧ 32 ≤ m) ∨ ((hdr k m).length = 3 ∧ 4096 ≤ m) := by
  unfold hdr
  split
  · simp
  · split
    · simp; omega
    · simp; omega

theorem de_long (a : Option Addr) (n c : Nat) (k m : Int) (w : World) (h : 1048576 < n) (h' : n ≤ 9223372036854775807) :
    Calls Trym.prog 3 #[.slice a n c, .int .u32 k, .int .i64 m] w fun e w' => e = .returned (.bool true) ∧ Below w.heap.size w w' := by
  have h1 : (1048576 : Int) < n := by omega
  go_enter Trym.func3, Trym.ntmps3
  go_wp2
  go_ret
  exact ⟨rfl, by go_grown⟩
theorem de_kind (a : Option Addr) (n c : Nat) (k m : Int) (w : World) (h : n ≤ 1048576) (h' : 3 < k) :
    Calls Trym.prog 3 #[.slice a n c, .int .u32 k, .int .i64 m] w fun e w' => e = .returned (.bool true) ∧ Below w.heap.size w w' := by
  have h1 : (n : Int) ≤ 1048576 := by omega
  go_enter Trym.func3, Trym.ntmps3
  go_wp2
  go_ret
  exact ⟨rfl, by go_grown⟩
theorem de_size (a : Option Addr) (n c : Nat) (k m : Int) (w : World) (h : n ≤ 1048576) (h' : k ≤ 3) (hm : m < 0 ∨ 1048576 ≤ m) :
    Calls Trym.prog 3 #[.slice a n c, .int .u32 k, .int .i64 m] w fun e w' => e = .returned (.bool true) ∧ Below w.heap.size w w' := by
  have h1 : (n : Int) ≤ 1048576 := by omega
  rcases hm with hm | hm
  · go_enter Trym.func3, Trym.ntmps3
    go_wp2
    go_ret
    exact ⟨rfl, by go_grown⟩
  · have hm' : ¬ m < 0 := by omega
    go_enter Trym.func3, Trym.ntmps3
    go_wp2
    go_ret
    exact ⟨rfl, by go_grown⟩

theorem bytes_ok (a : Option Addr) (n c : Nat) (k m : Int) (w : World) (h : (n : Int) ≤ 1048576) :
    Calls Trym.prog 8 #[.slice a n c, .int .u32 k, .int .i64 m] w fun e w' => e = .returned (.bool true) ∧ w' = w := by
  go_enter Trym.func8, Trym.ntmps8
  go_wp2
  go_ret
  exact ⟨rfl, rfl⟩

set_option maxHeartbeats 2000000 in
theorem de_main (a : Option Addr) (n c : Nat) (L : List Int) (k m : Int) (w : World) (hs : Src w a n c L) (hn : n ≤ 1048576) (hk : 0 ≤ k) (hk' : k ≤ 3) (hm : 0 ≤ m) (hm' : m < 1048576) :
    Calls Trym.prog 3 #[.slice a n c, .int .u32 k, .int .i64 m] w fun e w' => e = .returned (.bool true) ∧ Below w.heap.size w w' := by
  have h1 : (n : Int) ≤ 1048576 := by omega
  have HS := hide hs
  clear hs
  go_enter Trym.func3, Trym.ntmps3
  go_wp2_with fail
  refine (bytes_ok a n c k m w h1).mono ?_
  rintro e w' ⟨rfl, rfl⟩
  go_wp2_with fail
  refine (clone_any a n c L w' HS.out hn).mono ?_
  rintro e w1 ⟨v1, rfl, o1, g1⟩
  obtain ⟨a1, c1, rfl, s1, b1, hc1⟩ := own_src o1
  have S1 := hide s1
  have B1 := hide b1
  clear s1 b1
  go_wp2_with fail
  refine (clone_any a1 n c1 L w1 S1.out hn).mono ?_
  rintro e w2 ⟨v2, rfl, o2, g2⟩
  have o1' := o1.kept g2 (own_ne _)
  go_wp2_with fail
  refine (zzapp_any w'.heap.size (.slice a1 n c1) n _ w2 k m o1' hk hk' (Nat.le_trans g1.size g2.size) hn hm hm').mono ?_
  rintro e w3 ⟨v3, rfl, o3, g3⟩
  have o2' : w3.ownsRow w1.heap.size 5 1 v2 n (L.map (Value.int .u8)) := o2.kept g3 (by
    by_cases hh : v2.ownBlock = none
    · exact .inl hh
    · right
      intro he
      obtain ⟨r, hr⟩ := Option.ne_none_iff_exists'.1 hh
      have h2 := (o2.lt r hr).1
      rw [he] at hr
      have h3 := (o1.lt r hr).2
      omega)
  have HB : Hid (Below w'.heap.size w' w3) := (((Below.refl _ _).grown g1 (Nat.le_refl _) (fun _ h => by cases h)).grown g2 g1.size (fun _ h => by cases h)).grown g3 (Nat.le_trans g1.size g2.size) (fun r hr => (o1.lt r hr).1)
  obtain ⟨a2, c2, rfl, s2, b2, hc2⟩ := own_src o2'
  have S2 := hide s2
  have B2 := hide b2
  rw [← List.map_append, List.length_map] at o3
  obtain ⟨a3, c3, rfl, s3, b3, hc3⟩ := own_src o3
  have S3 := hide s3
  have B3 := hide b3
  have hl := hdr_len k m
  obtain ⟨hl1, hl2⟩ := hl
  clear o1 o1' o2 o2' o3 g1 g2 g3 S1 B1 s2 b2 s3 b3
  obtain ⟨g3, rfl, C3⟩ : ∃ g3, a3 = some ⟨g3, 0, none⟩ ∧ Hid (∀ j, j < n + (hdr k m).length → w3.cell? ⟨g3, j, none⟩ = some (.int .u8 ((L ++ hdr k m).getD j 0))) := by
    rcases S3.out with ⟨_, h, _⟩ | ⟨x, rfl, hL, hc⟩
    · omega
    · obtain ⟨e1, e2, _⟩ := B3.out x rfl
      obtain ⟨xb, xo, xs⟩ := x
      subst e1; subst e2
      refine ⟨xb, rfl, fun j hj => ?_⟩
      have := hc j (.int .u8 ((L ++ hdr k m).getD j 0)) (by rw [List.getElem?_map, List.getElem?_eq_getElem (by omega)]; simp [List.getD_eq_getElem?_getD, List.getElem?_eq_getElem (show j < (L ++ hdr k m).length by omega)])
      rw [Addr.add_lit, Nat.zero_add] at this
      exact this
  clear S3 B3
  have HD := hide (fun (q : Nat) (hc : ∀ j, j < (hdr k m).length → (w3.drewN q).cell? ⟨g3, n + j, none⟩ = some (.int .u8 ((hdr k m).getD j 0))) => dec_any g3 n (c3 - n) k m (w3.drewN q) hk hk' hm hm' hc)
  have HC := hide (hdr_cases k m)
  generalize hh : (hdr k m).length = h at *
  have HH := hide hh
  clear hh
  go_wp2
  go_loopw [9] (fun i wr => ∃ t : Nat, t ≤ n ∧ i = .int .i64 t ∧ ∃ q, wr = w3.drewN q) (fun i _ => n - (intOf i).toNat)
  case atStart => exact ⟨0, Nat.zero_le _, rfl, 0, rfl⟩
  case round =>
    obtain ⟨t, ht, rfl, q, rfl⟩ := hrel
    by_cases hlt : t < n
    · obtain ⟨g2, rfl, hLn, C2⟩ : ∃ g2, a2 = some ⟨g2, 0, none⟩ ∧ L.length = n ∧ w3.cell? ⟨g2, t, none⟩ = some (.int .u8 (L.getD t 0)) := by
        rcases S2.out with ⟨_, h, _⟩ | ⟨x, rfl, hL, hc⟩
        · omega
        · obtain ⟨e1, e2, _⟩ := B2.out x rfl
          obtain ⟨xb, xo, xs⟩ := x
          subst e1; subst e2
          refine ⟨xb, rfl, hL, ?_⟩
          have := hc t (.int .u8 (L.getD t 0)) (by rw [List.getElem?_map, List.getElem?_eq_getElem (by omega)]; simp [List.getD_eq_getElem?_getD, List.getElem?_eq_getElem (show t < L.length by omega)])
          rw [Addr.add_lit, Nat.zero_add] at this
          exact this
      have C3t : w3.cell? ⟨g3, t, none⟩ = some (.int .u8 (L.getD t 0)) := by
        rw [C3.out t (by omega)]
        simp [List.getD_eq_getElem?_getD, List.getElem?_append_left (show t < L.length by omega)]
      generalize L.getD t 0 = x at C2 C3t
      have b1 : (t : Int) < (n : Int) := by omega
      have b2 : (t : Int) < ((n + h : Nat) : Int) := by omega
      have hd : (x != x) = false := by simp
      clear hLn
      go_wp2
      go_quiet (fail)
      go_wp2
      exact ⟨⟨t + 1, by omega, by go_num, _, rfl⟩, by simp [intOf]; omega⟩
    · have hLn : L.length = n := by
        rcases S2.out with ⟨_, h, _, rfl⟩ | ⟨x, rfl, hL, hc⟩
        · rw [h]; rfl
        · exact hL
      have CD : ∀ j, j < h → (w3.drewN q).cell? ⟨g3, n + j, none⟩ = some (.int .u8 ((hdr k m).getD j 0)) := by
        intro j hj
        show w3.cell? ⟨g3, n + j, none⟩ = _
        rw [C3.out (n + j) (by omega)]
        simp [List.getD_eq_getElem?_getD, List.getElem?_append_right (show L.length ≤ n + j by omega), hLn]
      have D := hide (HD.out q CD)
      clear HD CD hLn
      rcases HC.out with e | ⟨e, hge⟩ | ⟨e, hge⟩
      all_goals
        subst e
        go_wp2_with fail
        refine D.out.mono ?_
        rintro e w4 ⟨rfl, q', rfl⟩
        go_wp2
        go_ret
        exact ⟨ret_true (by simp), below_draws HB.out _⟩

/-- WHAT THE WALK IS TOLD OF A SLICE OF INTEGERS THAT CAME IN. -/
def IsRow (k : IntKind) (w : World) (a : Option Addr) (len cap : Nat) (zs : List Int) : Prop :=
  (a = none ∧ len = 0 ∧ cap = 0 ∧ zs = []) ∨
  ∃ x, a = some x ∧ len ≤ cap ∧ cap ≤ maxLen ∧ zs.length = cap ∧ (∀ i, i < zs.length → w.cell? (x.add i) = some (.int k (zs.getD i 0))) ∧ ∀ n ∈ zs, (Lit.int k n).wf = true

theorem isRow_src {w : World} {a : Option Addr} {n c : Nat} {zs : List Int} (h : IsRow .u8 w a n c zs) : Src w a n c (zs.take n) ∧ n ≤ 9223372036854775807 := by
  rcases h with ⟨rfl, rfl, rfl, rfl⟩ | ⟨x, rfl, h1, h2, h3, h4, _⟩
  · exact ⟨.inl ⟨rfl, rfl, rfl, rfl⟩, by omega⟩
  · refine ⟨.inr ⟨x, rfl, by simp; omega, fun j u hu => ?_⟩, by unfold maxLen at h2; omega⟩
    have hj : j < n := by
      have := (List.getElem?_eq_some_iff.1 hu).1
      simp at this; omega
    rw [List.getElem?_map, List.getElem?_take, if_pos hj, List.getElem?_eq_getElem (by omega)] at hu
    simp at hu
    rw [h4 j (by omega), ← hu]
    simp [List.getD_eq_getElem?_getD, List.getElem?_eq_getElem (show j < zs.length by omega)]

theorem de_walk (a0 : Option Addr) (len0 cap0 : Nat) (z0 : List Int) (a1 : Int) (a2 : Int) (w : World) (w0 : IsRow .u8 w a0 len0 cap0 z0) (w1 : (Lit.int .u32 a1).wf = true) :
    Calls Trym.prog 3 #[.slice a0 len0 cap0, .int .u32 a1, .int .i64 a2] w fun e w' => e = .returned (.bool true) ∧ Below w.heap.size w w' := by
  obtain ⟨hs, hmx⟩ := isRow_src w0
  have hk := wf_u32 w1
  by_cases h1 : 1048576 < len0
  · exact de_long a0 len0 cap0 a1 a2 w h1 hmx
  by_cases h2 : 3 < a1
  · exact de_kind a0 len0 cap0 a1 a2 w (by omega) h2
  by_cases h3 : a2 < 0 ∨ 1048576 ≤ a2
  · exact de_size a0 len0 cap0 a1 a2 w (by omega) (by omega) h3
  · exact de_main a0 len0 cap0 (z0.take len0) a1 a2 w hs (by omega) hk.1 (by omega) (by omega) (by omega)

/-! ### The row -/
theorem de_own : ownKnob Trym.prog.godebug = none := by kernel_rfl
theorem de_laidOut : laidOutB Trym.prog = true := by kernel_rfl

set_option maxRecDepth 100000 in
theorem de_lifted (os : Os) (started : os.Started) (H : Type) (enc : TypeId × Value → H) :
    ReturnsInHanded {} Trym.checked os 3 .any (Rows.fnAppendLiteralsHeaderDecodesSpec.pre6 enc Trym.prog Trym.f3 Rows.fnAppendLiteralsHeaderDecodesRow.domain false) (Rows.fnAppendLiteralsHeaderDecodesSpec.post enc Trym.prog Trym.f3 false true false false) := by
  refine returnsInHanded_of_change (C := Trym.checked) de_own started (by kernel_rfl) Trym.func3
    (ChangeSpec.witness6 (enc := enc) (C := Trym.checked) false ⟨#[], #[.slice none 0 0, .int .u32 0, .int .i64 0], []⟩ 8 (by kernel_rfl) (by kernel_rfl) (by kernel_rfl) (by kernel_rfl)) ?_
  intro W base args ds gs before hval0 hW hcnd _
  have hval : ∀ (j : Nat) t v, Trym.f3.params[j]? = some t → args[j]? = some v → Value.okWide Trym.prog W .any base t v := hval0
  have hW' := hW
  obtain ⟨p, q, hA0, hV, rfl, hfz, hnd⟩ := hW
  have hA : DataW.TrodAll enc Trym.prog W 0 (fun _ => true) true Trym.f3.params.toList args.toList ds p := hA0
  rw [Trym.params3] at hA hval
  obtain ⟨v0, vs0, d0, ds0, p0, q0, hargs, rfl, rfl, h0, r0⟩ := trodAll_cons hA
  obtain ⟨v1, vs1, d1, ds1, p1, q1, rfl, rfl, rfl, h1, r1⟩ := trodAll_cons r0
  obtain ⟨v2, vs2, d2, ds2, p2, q2, rfl, rfl, rfl, h2, r2⟩ := trodAll_cons r1
  obtain ⟨rfl, rfl, rfl⟩ := trodAll_nil r2
  obtain rfl : args = #[v0, v1, v2] := by cases args; simp_all
  obtain ⟨rfl, rfl⟩ := trodVars_none hV
  obtain ⟨a0, len0, cap0, rfl⟩ := okWide_slice Trym.underlying22 (hval 0 22 v0 rfl rfl)
  have k0 := h0
  have lt0 : ∀ x ∈ p0, x.block < W.heap.size := by obtain ⟨m, hm⟩ := k0; exact DataW.trod_lt m _ _ _ hm
  obtain ⟨z0, w0⟩ : ∃ zs, IsRow .u8 W a0 len0 cap0 zs := by
    obtain ⟨fuel, hf⟩ := h0
    rcases open_ints Trym.underlying22 Trym.underlying5 (by kernel_rfl) hf with ⟨hcs, _⟩ | ⟨x, l, c, zs, hcs, _, hl, hm, hz, _, hcell, hwz⟩
    · simp [Value.cells] at hcs
      obtain ⟨rfl, rfl, rfl⟩ := hcs
      exact ⟨[], .inl ⟨rfl, rfl, rfl, rfl⟩⟩
    · simp [Value.cells] at hcs
      obtain ⟨rfl, rfl, rfl⟩ := hcs
      exact ⟨zs, .inr ⟨_, rfl, hl, hm, by simpa using hz, hcell, hwz⟩⟩
  obtain ⟨a1, rfl, rfl, rfl, w1⟩ := open_int Trym.underlying23 (hval 1 23 v1 rfl rfl) h1
  obtain ⟨a2, rfl, rfl, rfl, w2⟩ := open_int Trym.underlying3 (hval 2 3 v2 rfl rfl) h2
  clear hA0 hval0
  refine (de_walk a0 len0 cap0 z0 a1 a2 W w0 w1).mono fun e W' ⟨he, bel⟩ => ?_
  subst he
  exact ⟨_, rfl, _, _, _, [], _, [], hW', trodAll_mk1 (shut_bool Trym.underlying4 _), (trodAll_cons_mk (Below.trod de_laidOut (by kernel_rfl) (of_decide_eq_true (by kernel_rfl)) k0 bel lt0) (trodAll_cons_mk (shut_int Trym.underlying23 w1) (trodAll_cons_mk (shut_int Trym.underlying3 w2) trodAll_mk0))), rfl, bel.frame _, fun h => by cases h⟩

theorem de_over : Rows.fnAppendLiteralsHeaderDecodesRow.holds Trym.pinned (OpenSpec.ofChange Rows.fnAppendLiteralsHeaderDecodesSpec) :=
  OpenClaim.holds_of_wide 3 Trym.f3 rfl rfl rfl rfl rfl rfl rfl ⟨rfl, rfl, rfl, rfl, rfl⟩ rfl rfl rfl rfl rfl (by kernel_rfl) Trym.func3 (by kernel_rfl)
    (of_decide_eq_true (by kernel_rfl)) (by unfold Func.isWrapper; first | (rw [if_pos (by decide +kernel)]; kernel_rfl) | (rw [if_neg (by decide +kernel)]; exact ⟨rfl, rfl⟩))
    (fun os started H enc _ => de_lifted os started H enc)

theorem fnAppendLiteralsHeaderDecodes_proved : Rows.FnAppendLiteralsHeaderDecodesSaid := de_over
end Go.Proofs.Qxb6601950aMods
