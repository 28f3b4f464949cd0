/-
  FnAppendStayingKeepsStayersInBothBranches (3): the walk.
-/
import Derived.Test.Qxb6601991aModsStay5
namespace Go.Proofs.Qxb6601991aMods
open Go.ChangeShapes Go.WideShapes Go.ChangeAt Go.RowKit
set_option linter.unusedVariables false

theorem undrew_r {B : Nat} {a w : World} (h : Below B a w.drew) : Below B a w := ⟨h.os, h.tape, h.output, h.size, h.block⟩
/-- What the law lays behind the points: the greatest numbers. -/
def far : Int × Int := (18446744073709551615, 4294967295)
theorem far_get {L1 : List (Int × Int)} {n k : Nat} (hl : L1.length = n) {j : Nat} (h1 : n ≤ j) (h2 : j < n + k) : (L1 ++ List.replicate k far).getD j (0, 0) = far := by
  rw [List.getD_eq_getElem?_getD, List.getElem?_append_right (by omega), List.getElem?_replicate, if_pos (by omega)]; rfl
theorem far_get0 {L1 : List (Int × Int)} {n k : Nat} (hl : L1.length = n) {j : Nat} (h1 : j < n) : (L1 ++ List.replicate k far).getD j (0, 0) = L1.getD j (0, 0) := by
  rw [List.getD_eq_getElem?_getD, List.getElem?_append_left (by omega), List.getD_eq_getElem?_getD]
theorem row_of_take {w : World} {g q c : Nat} {M W : List (Int × Int)} (h : OB w g 37 (ptCells M)) (hM : M.length = c) (hq : q ≤ c) (hW : M.take q = W) : Row w (some ⟨g, 0, none⟩) q 2 (ptCells W) := by
  have := h.row (n := q) (sz := 2) (by rw [ptCells_length]; omega)
  rwa [ptCells_take, hW] at this
theorem far_drop {M : List (Int × Int)} {q j : Nat} (h : M.drop q = List.replicate 4 far) (h1 : q ≤ j) (h2 : j < q + 4) : M.getD j (0, 0) = far := by
  have : (M.drop q)[j - q]? = some far := by rw [h, List.getElem?_replicate, if_pos (by omega)]
  rw [List.getElem?_drop, show q + (j - q) = j by omega] at this
  rw [List.getD_eq_getElem?_getD, this]; rfl

set_option maxRecDepth 100000 in
set_option maxHeartbeats 8000000 in
theorem as_main (a0 a1 a2 : Option Addr) (n m nl c0 c1 c2 : Nat) (L1 L2 : List (Int × Int)) (lv : List Bool) (w : World) (h0 : Row w a0 n 2 (ptCells L1)) (h1 : Row w a1 m 2 (ptCells L2)) (h2 : Row w a2 nl 1 (lv.map Value.bool)) (ha : a2 = none → nl = 0 ∧ c2 = 0) (hw : WfPts L2)
    (hn : n ≤ 65536) (hm : m ≤ 65536) (hl : nl ≤ 65536) (ht : 16 * n + 16 * m + nl ≤ 1048576) (hs : a2 ≠ none → srvIn L2 nl)
    (hsi : Calls Trym.prog 12 #[.slice a1 m c1, .slice a2 nl c2] w fun e w' => e = .returned (.bool true) ∧ w' = w) :
    Calls Trym.prog 3 #[.slice a0 n c0, .slice a1 m c1, .slice a2 nl c2] w fun e w' => e = .returned (.bool true) ∧ Below w.heap.size w w' := by
  obtain ⟨i0, hi, hz0, hz1, hz2⟩ := info_parts info37
  have hl1 := h0.len
  have hl2 := h1.len
  have H0 := hide h0
  have H1 := hide h1
  have HSI := hide hsi
  have HC := hide (clone_lv a2 nl c2 lv L1 L2 w h2 ha hs hw (by omega) (by omega) (by omega))
  have HL1 := hide hl1
  have HL2 := hide hl2
  clear h0 h1 h2 hs hsi ha hw
  have t1 : (n : Int) ≤ 65536 := by omega
  have t2 : (m : Int) ≤ 65536 := by omega
  have t3 : (nl : Int) ≤ 65536 := by omega
  have e1 : ptsTo 0 n = 16 * n := by unfold ptsTo addTo; rw [if_neg (by omega), if_neg (by omega)]; omega
  have e2 : ptsTo (16 * n) m = 16 * n + 16 * m := by unfold ptsTo addTo; rw [if_neg (by omega), if_neg (by omega)]
  have e3 : addTo (16 * n + 16 * m) nl = 16 * n + 16 * m + nl := by unfold addTo; rw [if_neg (by omega)]
  have E1 := hide e1
  have E2 := hide e2
  have E3 := hide e3
  have ed : decide (n + m + nl ≤ 1048576) = true := decide_eq_true (by omega)
  clear e1 e2 e3 hl1 hl2
  go_enter Trym.func3, Trym.ntmps3
  go_wp2_with fail
  refine (bytes9 a0 a1 a2 n m nl c0 c1 c2 w).mono ?_
  rintro e w' ⟨rfl, rfl⟩
  rw [ed]
  go_wp2_with fail
  refine (pts_any 0 a0 n c0 w' (by omega)).mono ?_
  rintro e w1 ⟨rfl, rfl⟩
  rw [E1.out]
  go_wp2_with fail
  refine (pts_any _ a1 m c1 w1 (by omega)).mono ?_
  rintro e w2 ⟨rfl, rfl⟩
  rw [E2.out]
  go_wp2_with fail
  refine (add_any _ _ w2 (by omega)).mono ?_
  rintro e w3 ⟨rfl, rfl⟩
  rw [E3.out]
  have t4 : 16 * (n : Int) + 16 * m + nl ≤ 1048576 := by omega
  go_wp2_with fail
  refine HSI.out.mono ?_
  rintro e w4 ⟨rfl, rfl⟩
  go_wp2_with fail
  refine HC.out.mono ?_
  rintro e w1 ⟨lvv, kp, rfl, hLv, hb1⟩
  have HV := hide hLv
  clear HC HSI hLv ed E1 E2 E3 t4
  go_wp2_with fail
  refine (staying a0 a1 n m c0 c1 L1 L2 lvv kp w1 (H0.out.below hb1) (H1.out.below hb1) hn hm HV.out.stays).mono ?_
  rintro e w2 ⟨gw, rfl, hgw, hW, hb2⟩
  have HB2 := hide (hb1.trans (hb2.mono hb1.size))
  have hb1n := hb1.size
  have hb2n := hb2.size
  have HBv := hide hb2
  have HW := hide hW
  have hrm : (L2.filter kp).length ≤ m := by have := List.length_filter_le kp L2; rw [HL2.out] at this; exact this
  obtain ⟨W, hWW⟩ : ∃ W, W = L1 ++ L2.filter kp := ⟨_, rfl⟩
  have hWl : W.length = n + (L2.filter kp).length := by rw [hWW, List.length_append, HL1.out]
  rw [← hWW] at HW
  generalize hr : (L2.filter kp).length = r at *
  have HWW := hide hWW
  have HWl := hide hWl
  have HR := hide hr
  clear hb1 hb2 hW hWW hWl hr
  go_wp2_with fail
  refine (toRing a1 m c1 L2 w2 (H1.out.below HB2.out) hm).mono ?_
  rintro e w3 ⟨g2, rfl, hg2, ho2, hb3⟩
  have HB3 := hide (HB2.out.trans (hb3.mono HB2.out.size))
  have HW3 := hide (HW.out.below hb3)
  have HBv3 := hide (HBv.out.trans (hb3.mono HBv.out.size))
  have hb3n := hb3.size
  have HO2 := hide ho2
  clear HB2 HW HBv hb3 ho2
  go_wp2_with fail
  refine (toRing a0 n c0 L1 w3 (H0.out.below HB3.out) hn).mono ?_
  rintro e w5 ⟨g1, rfl, hg1, ho1, hb5⟩
  have hb5n := hb5.size
  have hg2l := HO2.out.lt
  have ho2' := HO2.out.below HO2.out.lt hb5
  have HG := hide (HV.out.got w5 g1 g2 m (HBv3.out.trans (hb5.mono HBv3.out.size)) (by omega) (by omega) ho1 ho2')
  rw [HL1.out, HL2.out, ← HWW.out] at HG
  have HB5 := hide hb5
  clear hb5 ho2' ho1
  go_wp2_with fail
  refine HG.out.mono ?_
  rintro e w6 ⟨ag, cg, rfl, hrow, hgr⟩
  rw [HWl.out] at hrow ⊢
  have B6 : Below w3.heap.size w3 w6 := HB5.out.trans (grown_below hgr hb5n (fun k hk => by cases hk; exact hg1))
  have HB6 := hide B6
  have HW6 := hide (HW3.out.below B6)
  have hrow' := hide hrow
  clear HG hgr B6 HB5 hrow
  go_wp2_with fail
  refine (sameAs ag (some ⟨gw, 0, none⟩) (n + r) cg (n + m) W w6 hrow'.out HW6.out (by omega)).mono ?_
  rintro e w7 ⟨rfl, hb7⟩
  have B7 : Below w3.heap.size w3 w7 := HB6.out.trans (hb7.mono HB6.out.size)
  have HB7 := hide B7
  have hn7 := B7.size
  clear HB6 HW6 hrow' hb7 B7 hg1 hb5n
  go_wp2_with (at_make; refine wpList_make_full _ rfl _ _ 30 rfl w7.heap.size 37 i0 (.agg #[.int .u64 0, .int .u32 0]) 2 Trym.underlying30 hi hz0 hz1 .i64 .i64 _ _ (n + m + 4) rfl rfl (by omega) (by omega) (by rw [hz2]; omega) (by unfold maxLen; omega) (Nat.le_refl _) ?_; intro w8 o8 g8)
  have ho8 : OB w8 w7.heap.size 37 (ptCells (List.replicate (n + m + 4) (0, 0))) := by
    have := own_full o8
    rw [show (Value.agg #[Value.int .u64 0, Value.int .u32 0]).cells = #[Value.int .u64 0, Value.int .u32 0] from rfl, made_pts] at this
    exact this
  have hb8 : Below w7.heap.size w7 w8 := grown_below g8 (Nat.le_refl _) (fun _ h => by cases h)
  clear o8 g8 hi hz0 hz1 hz2
  have HB47 := hide (HB3.out.trans (HB7.out.mono HB3.out.size))
  have hn4 := HB47.out.size
  generalize hT : L1 ++ List.replicate (m + 4) far = T
  have hTl : T.length = n + m + 4 := by rw [← hT, List.length_append, List.length_replicate, HL1.out]; omega
  have HT := hide hT
  have HTl := hide hTl
  clear hT hTl
  go_loopw [11] (fun i wr => ∃ (k : Nat) (M : List (Int × Int)), k ≤ n ∧ i = .int .i64 k ∧ M.length = n + m + 4 ∧ (∀ j, j < k → M.getD j (0, 0) = T.getD j (0, 0)) ∧ OB wr w7.heap.size 37 (ptCells M) ∧ Below w7.heap.size w7 wr) (fun i _ => n - (intOf i).toNat)
  case atStart => exact ⟨0, _, Nat.zero_le _, rfl, by simp, fun j hj => by omega, ho8, hb8⟩
  case round =>
    obtain ⟨k, M, hk, rfl, hM, hj, hob, hbel⟩ := hrel
    clear ho8 hb8
    by_cases hlt : k < n
    · obtain ⟨b, off, p, s, rfl, hlt', hp, c1, c2⟩ := (H0.out.below (HB47.out.trans (hbel.mono hn4))).pt hlt
      have hpT : T.getD k (0, 0) = (p, s) := by rw [← HT.out, far_get0 HL1.out hlt]; exact hp
      have b1 : (k : Int) < (n : Int) := by omega
      have b2 : (k : Int) < ((n + m + 4 : Nat) : Int) := by omega
      obtain ⟨u1, e1⟩ := hob.some (j := k * 2) (by rw [ptCells_length]; omega)
      obtain ⟨u2, e2⟩ := hob.some (j := k * 2 + 1) (by rw [ptCells_length]; omega)
      have f1 := hob.frozen (k * 2)
      have f2 := hob.frozen (k * 2 + 1)
      have hz : w7.heap.size < wr.heap.size := hob.lt
      have hz2 : w7.heap.size ≠ wr.heap.size := by omega
      have hz3 : b ≠ wr.heap.size := by omega
      have R := hide (ob_round (k := k) (p := p) (s := s) (o := Obj.cells #[Value.int IntKind.u64 p, Value.int IntKind.u32 s] 37) hob (by omega) hbel (Nat.le_refl _) (by omega))
      have S := hide (pts_step (k := k) (by omega) hpT hj)
      have HM := hide hM
      clear hob hbel hM hj hp hpT
      go_wp2
      go_region_with (go_at_call 18; refine (mkPoint _ _ _).mono ?_; rintro e w' ⟨rfl, rfl⟩)
      all_goals
        go_wp2
        go_roundw
        case rel => exact ⟨k + 1, _, by omega, by go_num, by rw [List.length_set]; exact HM.out, S.out, R.out.1, R.out.2⟩
        case measure => simp [intOf]; omega
    · have e : k = n := by omega
      subst e
      go_wp2
      go_loopw [12] (fun i wr' => ∃ (t : Nat) (M' : List (Int × Int)), k ≤ t ∧ t ≤ k + m + 4 ∧ i = .int .i64 t ∧ M'.length = k + m + 4 ∧ (∀ j, j < t → M'.getD j (0, 0) = T.getD j (0, 0)) ∧ OB wr' w7.heap.size 37 (ptCells M') ∧ Below w7.heap.size w7 wr') (fun i _ => k + m + 4 - (intOf i).toNat)
      case atStart => exact ⟨k, M, Nat.le_refl _, by omega, rfl, hM, hj, hob, hbel⟩
      case round =>
        obtain ⟨t, M', hkt, htk, rfl, hM', hj', hob', hbel'⟩ := hrel
        clear hob hbel hM hj
        by_cases hlt2 : t < k + m + 4
        · have hpT : T.getD t (0, 0) = (18446744073709551615, 4294967295) := by rw [← HT.out]; exact far_get HL1.out hkt (by omega)
          have b2 : (t : Int) < ((k + m + 4 : Nat) : Int) := by omega
          obtain ⟨u1, e1⟩ := hob'.some (j := t * 2) (by rw [ptCells_length]; omega)
          obtain ⟨u2, e2⟩ := hob'.some (j := t * 2 + 1) (by rw [ptCells_length]; omega)
          have f1 := hob'.frozen (t * 2)
          have f2 := hob'.frozen (t * 2 + 1)
          have hz : w7.heap.size < wr.heap.size := hob'.lt
          have R := hide (ob_round (k := t) (p := 18446744073709551615) (s := 4294967295) (o := Obj.cells #[Value.int IntKind.u64 18446744073709551615, Value.int IntKind.u32 4294967295] 37) hob' (by omega) hbel' (Nat.le_refl _) (by omega))
          have S := hide (pts_step (k := t) (by omega) hpT hj')
          have HM := hide hM'
          clear hob' hbel' hM' hj' hpT
          go_wp2_with (go_at_call 18; refine (mkPoint _ _ _).mono ?_; rintro e w' ⟨rfl, rfl⟩)
          go_roundw
          case rel => exact ⟨t + 1, _, by omega, by omega, by go_num, by rw [List.length_set]; exact HM.out, S.out, R.out.1, undrew_r R.out.2⟩
          case measure => simp [intOf]; omega
        · have e : t = k + m + 4 := by omega
          subst e
          have eT : M' = T := pts_ext hM' HTl.out hj'
          subst eT
          have hg2w : g2 < wr.heap.size := by have := hbel'.size; omega
          have B3r : Below w3.heap.size w3 wr := HB7.out.trans (hbel'.mono hn7)
          have ho2r := HO2.out.below HO2.out.lt B3r
          have HG := hide (HV.out.room wr w7.heap.size g2 k (k + m + 4) m M' (HBv3.out.trans (B3r.mono HBv3.out.size)) (by omega) (by omega) hob' ho2r HTl.out (by rw [HL2.out]; omega) (by omega) hn)
          rw [HL2.out] at HG
          have HBr := hide hbel'
          clear B3r ho2r hob' hbel' hM' hj'
          go_wp2_with fail
          refine HG.out.mono ?_
          rintro e w10 ⟨rfl, ⟨M2, hM2, htk2, hdr2, hob2⟩, hgr2⟩
          have B10 : Below w7.heap.size w7 w10 := HBr.out.trans (grown_below hgr2 HBr.out.size (fun k hk => by cases hk; exact Nat.le_refl _))
          rw [HR.out] at htk2 ⊢
          have hW2 : M2.take (k + r) = W := by
            rw [htk2, ← HT.out, List.take_append_of_le_length (by rw [HL1.out]; exact Nat.le_refl _), List.take_of_length_le (by rw [HL1.out]; exact Nat.le_refl _), HWW.out]
          have hF2 : M2.drop (k + m) = List.replicate 4 far := by
            have hl1 := HL1.out
            rw [hdr2, ← HT.out, List.drop_append, List.drop_of_length_le (by omega), List.drop_replicate, List.nil_append]
            congr 1; omega
          have HRb := hide (row_of_take hob2 hM2 (by omega) hW2)
          have HRw := hide (HW3.out.below (HB7.out.trans (B10.mono hn7)))
          have HF2 := hide hF2
          have HM2 := hide hM2
          have HO10 := hide hob2
          have HB10 := hide B10
          clear HG hgr2 htk2 hdr2 hW2 hF2 hM2 hob2 B10 HBr
          go_wp2_with fail
          refine (sameAs (some ⟨w7.heap.size, 0, none⟩) (some ⟨gw, 0, none⟩) (k + r) (k + m + 4) (k + m) W w10 HRb.out HRw.out (by omega)).mono ?_
          rintro e w11 ⟨rfl, hb11⟩
          have HB11 := hide hb11
          clear hb11
          go_wp2
          go_loopw [13] (fun i wr' => ∃ t : Nat, t ≤ k + r ∧ i = .int .i64 t ∧ Below w10.heap.size w10 wr') (fun i _ => k + r - (intOf i).toNat)
          case atStart => exact ⟨0, Nat.zero_le _, rfl, HB11.out⟩
          case round =>
            obtain ⟨t, htr, rfl, hbel⟩ := hrel
            by_cases hlt3 : t < k + r
            · obtain ⟨b, off, p, s, hbe, hltb, hp, c1, c2⟩ := (HRb.out.below hbel).pt hlt3
              cases hbe
              obtain ⟨b', off', p', s', hbe, hltb', hp', c1', c2'⟩ := (HRw.out.below hbel).pt hlt3
              cases hbe
              rw [hp] at hp'
              cases hp'
              clear hp
              rw [Nat.zero_add] at c1 c2 c1' c2'
              have b1 : (t : Int) < ((k + r : Nat) : Int) := by omega
              have b2 : (t : Int) < (k : Int) + (m : Int) + 4 := by omega
              have b3 : (t : Int) < (k : Int) + (r : Int) := by omega
              have HB := hide hbel
              clear hbel
              go_wp2
              go_region_held3 (fun w' => w7.heap.size < w'.heap.size ∧ gw < w'.heap.size ∧ w'.cell? ⟨w7.heap.size, t * 2, none⟩ = some (.int .u64 p) ∧ w'.cell? ⟨w7.heap.size, t * 2 + 1, none⟩ = some (.int .u32 s) ∧ w'.cell? ⟨gw, t * 2, none⟩ = some (.int .u64 p) ∧ w'.cell? ⟨gw, t * 2 + 1, none⟩ = some (.int .u32 s)) (first | (simp [go_sem, *]; done) | (simp [go_sem, *]; omega)) ((go_at_call 19; refine (is_yes _ _ _).mono ?_; rintro e w' ⟨rfl, hb'⟩; have hcc := bcell (undrew hb'); have hsz := (undrew hb').size))
              go_wp2
              go_roundw
              case rel => exact ⟨t + 1, by omega, by go_num, HB.out.trans ((undrew hb').mono HB.out.size)⟩
              case measure => simp [intOf]; omega
            · clear HRb HRw
              go_wp2
              go_loopw [14] (fun i wr' => ∃ t : Nat, k + m ≤ t ∧ t ≤ k + m + 4 ∧ i = .int .i64 t ∧ Below w10.heap.size w10 wr') (fun i _ => k + m + 4 - (intOf i).toNat)
              case atStart => exact ⟨k + m, Nat.le_refl _, by omega, by go_num, hbel⟩
              case round =>
                obtain ⟨q, hq1, hq2, rfl, hbel'⟩ := hrel
                clear hbel
                by_cases hlt4 : q < k + m + 4
                · have ho := HO10.out.below HO10.out.lt hbel'
                  have c1 : wr.cell? ⟨w7.heap.size, q * 2, none⟩ = some (.int .u64 18446744073709551615) := by
                    rw [ho.cell, ptCells_pos M2 q (by rw [HM2.out]; exact hlt4), far_drop HF2.out hq1 (by omega)]; rfl
                  have c2 : wr.cell? ⟨w7.heap.size, q * 2 + 1, none⟩ = some (.int .u32 4294967295) := by
                    rw [ho.cell, ptCells_srv M2 q (by rw [HM2.out]; exact hlt4), far_drop HF2.out hq1 (by omega)]; rfl
                  have b2 : (q : Int) < ((k + m + 4 : Nat) : Int) := by omega
                  have HB := hide hbel'
                  clear hbel' ho
                  go_wp2_with fail
                  refine (is_yes _ _ _).mono ?_
                  rintro e w' ⟨rfl, hb'⟩
                  have HB' := hide (HB.out.trans (hb'.mono HB.out.size))
                  clear hb' HB c1 c2
                  go_wp2
                  go_roundw
                  case rel => exact ⟨q + 1, by omega, by omega, by go_num, HB'.out⟩
                  case measure => simp [intOf]; omega
                · go_wp2
                  go_ret
                  exact ⟨rfl, HB47.out.trans ((HB10.out.trans (hbel'.mono HB10.out.size)).mono hn4)⟩

/-! ### The ways on which the law answers at once -/
section
variable (a0 a1 a2 : Option Addr) (n m nl c0 c1 c2 : Nat) (w : World)
theorem as_long (h : ¬ n + m + nl ≤ 1048576) :
    Calls Trym.prog 3 #[.slice a0 n c0, .slice a1 m c1, .slice a2 nl c2] w fun e w' => e = .returned (.bool true) ∧ Below w.heap.size w w' := by
  have ed : decide (n + m + nl ≤ 1048576) = false := decide_eq_false h
  go_enter Trym.func3, Trym.ntmps3
  go_wp2_with fail
  refine (bytes9 a0 a1 a2 n m nl c0 c1 c2 w).mono ?_
  rintro e w' ⟨rfl, rfl⟩
  rw [ed]
  go_wp2
  go_ret
  exact ⟨rfl, Below.refl _ _⟩
theorem as_len (h : n + m + nl ≤ 1048576) (h' : 65536 < n ∨ 65536 < m ∨ 65536 < nl) :
    Calls Trym.prog 3 #[.slice a0 n c0, .slice a1 m c1, .slice a2 nl c2] w fun e w' => e = .returned (.bool true) ∧ Below w.heap.size w w' := by
  have ed : decide (n + m + nl ≤ 1048576) = true := decide_eq_true h
  have hx : 65536 < n ∨ (¬ 65536 < n ∧ 65536 < m) ∨ (¬ 65536 < n ∧ ¬ 65536 < m ∧ 65536 < nl) := by omega
  rcases hx with h1 | ⟨h1, h2⟩ | ⟨h1, h2, h3⟩
  · have t1 : (65536 : Int) < n := by omega
    go_enter Trym.func3, Trym.ntmps3
    go_wp2_with fail
    refine (bytes9 a0 a1 a2 n m nl c0 c1 c2 w).mono ?_
    rintro e w' ⟨rfl, rfl⟩
    rw [ed]
    go_wp2
    go_ret
    exact ⟨rfl, Below.refl _ _⟩
  · have t1 : (n : Int) ≤ 65536 := by omega
    have t2 : (65536 : Int) < m := by omega
    go_enter Trym.func3, Trym.ntmps3
    go_wp2_with fail
    refine (bytes9 a0 a1 a2 n m nl c0 c1 c2 w).mono ?_
    rintro e w' ⟨rfl, rfl⟩
    rw [ed]
    go_wp2
    go_ret
    exact ⟨rfl, Below.refl _ _⟩
  · have t1 : (n : Int) ≤ 65536 := by omega
    have t2 : (m : Int) ≤ 65536 := by omega
    have t3 : (65536 : Int) < nl := by omega
    go_enter Trym.func3, Trym.ntmps3
    go_wp2_with fail
    refine (bytes9 a0 a1 a2 n m nl c0 c1 c2 w).mono ?_
    rintro e w' ⟨rfl, rfl⟩
    rw [ed]
    go_wp2
    go_ret
    exact ⟨rfl, Below.refl _ _⟩
theorem as_bytes (h : n + m + nl ≤ 1048576) (hn : n ≤ 65536) (hm : m ≤ 65536) (hl : nl ≤ 65536) (ht : 1048576 < 16 * n + 16 * m + nl) :
    Calls Trym.prog 3 #[.slice a0 n c0, .slice a1 m c1, .slice a2 nl c2] w fun e w' => e = .returned (.bool true) ∧ Below w.heap.size w w' := by
  have ed : decide (n + m + nl ≤ 1048576) = true := decide_eq_true h
  have t1 : (n : Int) ≤ 65536 := by omega
  have t2 : (m : Int) ≤ 65536 := by omega
  have t3 : (nl : Int) ≤ 65536 := by omega
  have p1 := ptsTo_nonneg 0 n (by omega)
  have p2 := ptsTo_nonneg _ m p1
  have p3 : 1048576 < addTo (ptsTo (ptsTo 0 n) m) nl := by
    have e1 : ptsTo 0 n = 16 * n := by unfold ptsTo addTo; rw [if_neg (by omega), if_neg (by omega)]; omega
    have e2 : ptsTo (16 * n) m = 16 * n + 16 * m := by unfold ptsTo addTo; rw [if_neg (by omega), if_neg (by omega)]
    rw [e1, e2]; unfold addTo; split <;> omega
  go_enter Trym.func3, Trym.ntmps3
  go_wp2_with fail
  refine (bytes9 a0 a1 a2 n m nl c0 c1 c2 w).mono ?_
  rintro e w' ⟨rfl, rfl⟩
  rw [ed]
  go_wp2_with fail
  refine (pts_any 0 a0 n c0 w' (by omega)).mono ?_
  rintro e w1 ⟨rfl, rfl⟩
  go_wp2_with fail
  refine (pts_any _ a1 m c1 w1 p1).mono ?_
  rintro e w2 ⟨rfl, rfl⟩
  go_wp2_with fail
  refine (add_any _ _ w2 p2).mono ?_
  rintro e w3 ⟨rfl, rfl⟩
  go_wp2
  go_ret
  exact ⟨rfl, Below.refl _ _⟩
theorem as_srv (hn : n ≤ 65536) (hm : m ≤ 65536) (hl : nl ≤ 65536) (ht : 16 * n + 16 * m + nl ≤ 1048576)
    (hsi : Calls Trym.prog 12 #[.slice a1 m c1, .slice a2 nl c2] w fun e w' => e = .returned (.bool false) ∧ w' = w) :
    Calls Trym.prog 3 #[.slice a0 n c0, .slice a1 m c1, .slice a2 nl c2] w fun e w' => e = .returned (.bool true) ∧ Below w.heap.size w w' := by
  have HSI := hide hsi
  clear hsi
  have ed : decide (n + m + nl ≤ 1048576) = true := decide_eq_true (by omega)
  have t1 : (n : Int) ≤ 65536 := by omega
  have t2 : (m : Int) ≤ 65536 := by omega
  have t3 : (nl : Int) ≤ 65536 := by omega
  have p1 := ptsTo_nonneg 0 n (by omega)
  have p2 := ptsTo_nonneg _ m p1
  have p3 : addTo (ptsTo (ptsTo 0 n) m) nl ≤ 1048576 := by
    have e1 : ptsTo 0 n = 16 * n := by unfold ptsTo addTo; rw [if_neg (by omega), if_neg (by omega)]; omega
    have e2 : ptsTo (16 * n) m = 16 * n + 16 * m := by unfold ptsTo addTo; rw [if_neg (by omega), if_neg (by omega)]
    rw [e1, e2]; unfold addTo; rw [if_neg (by omega)]; omega
  go_enter Trym.func3, Trym.ntmps3
  go_wp2_with fail
  refine (bytes9 a0 a1 a2 n m nl c0 c1 c2 w).mono ?_
  rintro e w' ⟨rfl, rfl⟩
  rw [ed]
  go_wp2_with fail
  refine (pts_any 0 a0 n c0 w' (by omega)).mono ?_
  rintro e w1 ⟨rfl, rfl⟩
  go_wp2_with fail
  refine (pts_any _ a1 m c1 w1 p1).mono ?_
  rintro e w2 ⟨rfl, rfl⟩
  go_wp2_with fail
  refine (add_any _ _ w2 p2).mono ?_
  rintro e w3 ⟨rfl, rfl⟩
  go_wp2_with fail
  refine HSI.out.mono ?_
  rintro e w4 ⟨rfl, rfl⟩
  go_wp2
  go_ret
  exact ⟨rfl, Below.refl _ _⟩
end

theorem as_walk (a0 a1 a2 : Option Addr) (n m nl c0 c1 c2 : Nat) (L1 L2 : List (Int × Int)) (lv : List Bool) (w : World) (h0 : Row w a0 n 2 (ptCells L1)) (h1 : Row w a1 m 2 (ptCells L2)) (h2 : Row w a2 nl 1 (lv.map Value.bool)) (ha : a2 = none → nl = 0 ∧ c2 = 0) (hw : WfPts L2) :
    Calls Trym.prog 3 #[.slice a0 n c0, .slice a1 m c1, .slice a2 nl c2] w fun e w' => e = .returned (.bool true) ∧ Below w.heap.size w w' := by
  by_cases k1 : n + m + nl ≤ 1048576
  · by_cases k2 : 65536 < n ∨ 65536 < m ∨ 65536 < nl
    · exact as_len a0 a1 a2 n m nl c0 c1 c2 w k1 k2
    · by_cases k3 : 1048576 < 16 * n + 16 * m + nl
      · exact as_bytes a0 a1 a2 n m nl c0 c1 c2 w k1 (by omega) (by omega) (by omega) k3
      · cases a2 with
        | none =>
          obtain ⟨rfl, rfl⟩ := ha rfl
          exact as_main a0 a1 none n m 0 c0 c1 0 L1 L2 lv w h0 h1 h2 ha hw (by omega) (by omega) (by omega) (by omega) (fun h => absurd rfl h) (srv_nil a1 m c1 w)
        | some x =>
          have hc := srv_any a1 m c1 x nl c2 L2 w h1 hw (by omega) (by omega)
          by_cases hS : srvIn L2 nl
          · refine as_main a0 a1 (some x) n m nl c0 c1 c2 L1 L2 lv w h0 h1 h2 ha hw (by omega) (by omega) (by omega) (by omega) (fun _ => hS) (hc.mono ?_)
            rintro e w' (⟨_, hn, _⟩ | ⟨h, _, h'⟩)
            · exact absurd hS hn
            · exact ⟨h, h'⟩
          · refine as_srv a0 a1 (some x) n m nl c0 c1 c2 w (by omega) (by omega) (by omega) (by omega) (hc.mono ?_)
            rintro e w' (⟨h, _, h'⟩ | ⟨_, hn, _⟩)
            · exact ⟨h, h'⟩
            · exact absurd hn hS
  · exact as_long a0 a1 a2 n m nl c0 c1 c2 w k1
end Go.Proofs.Qxb6601991aMods
