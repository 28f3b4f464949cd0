/-
  FnWalkNextMeetsPointsInDistanceOrder (7): the walk.
-/
import Derived.Test.Qxb6601991aModsWalk5
import Derived.Test.Qxb6601991aModsWalk11
import Derived.Test.Qxb6601991aModsWalk12
import Derived.Deep.DeepCutAuto
import Derived.Deep.Light
namespace Go.Proofs.Qxb6601991aMods
open Go.ChangeShapes Go.WideShapes Go.ChangeAt Go.RowKit
set_option linter.unusedVariables false

theorem walkCells_pr (gp : Nat) (a2 : Option Addr) (m P : Nat) (q : Nat → Int) (pg ix : Nat → Nat) : [.pointer (some ⟨gp, 0, none⟩), .slice a2 m m] ++ prCells q pg ix ++ [.int .i64 P, .bool false] = walkCells gp a2 m q pg ix (fun _ => 0) P false := rfl
theorem int_nats : ∀ L : List Int, (∀ (j : Nat) (x : Int), L[j]? = some x → 0 ≤ x) → ∃ Z : List Nat, L = Z.map (fun x : Nat => (x : Int))
  | [], _ => ⟨[], rfl⟩
  | x :: r, h => by
    obtain ⟨Z, hZ⟩ := int_nats r (fun j y hy => h (j + 1) y hy)
    have h0 := h 0 x rfl
    refine ⟨x.toNat :: Z, ?_⟩
    rw [List.map_cons, ← hZ, Int.toNat_of_nonneg h0]
theorem map_sum : ∀ Z : List Nat, (Z.map (fun x : Nat => (x : Int))).sum = (Z.sum : Int)
  | [] => rfl
  | x :: r => by simp only [List.map_cons, List.sum_cons, map_sum r]; omega
theorem map_cells : ∀ Z : List Nat, (Z.map (fun x : Nat => (x : Int))).flatMap intF = Z.flatMap natF
  | [] => rfl
  | x :: r => by simp only [List.map_cons, List.flatMap_cons, map_cells r]; rfl
/-- What the law knows of its arguments once its tests are passed. -/
structure Good (L : List (Int × Int)) (N : List ByteArray) (Z : List Nat) (Q : List Int) (n m k P : Nat) : Prop where
  n0 : 0 < n
  n1 : n ≤ 65536
  m1 : m ≤ 65536
  k1 : k ≤ 65536
  p0 : 0 < P
  p4 : P ≤ 4
  wf : WfPts L
  inn : srvIn L m
  sum : Z.sum = n
  ord : InOrd (ptKey L N) n
  qwf : ∀ i, i < P → 0 ≤ Q.getD i 0 ∧ Q.getD i 0 ≤ 18446744073709551615
/-- The starts. -/
def Starts (L : List (Int × Int)) (N : List ByteArray) (Q : List Int) (S : List Nat) (n i : Nat) : Prop := ∀ j, j < i → StartsAt (ptKey L N) n (Q.getD j 0) (S.getD j 0)
theorem Starts.step {L : List (Int × Int)} {N : List ByteArray} {Q : List Int} {S : List Nat} {n i s : Nat} {q : Int} (h : Starts L N Q S n i) (hq : Q[i]? = some q) (hi : i < S.length) (hs : StartsAt (ptKey L N) n q s) : Starts L N Q (S.set i s) n (i + 1) := by
  intro j hj
  by_cases e : j = i
  · subst e
    rw [List.getD_eq_getElem?_getD, List.getD_eq_getElem?_getD, List.getElem?_set_self hi, hq]
    exact hs
  · have := h j (by omega)
    rw [List.getD_eq_getElem?_getD] at this ⊢
    rw [List.getD_eq_getElem?_getD (l := S.set i s), List.getElem?_set_ne (by omega), ← List.getD_eq_getElem?_getD]
    exact this

theorem starts_lt {L : List (Int × Int)} {N : List ByteArray} {Q : List Int} {S : List Nat} {n P : Nat} (h : Starts L N Q S n P) (hS : S.length = P) : ∀ (i s : Nat), S[i]? = some s → s < n := by
  intro i s hs
  have h1 := (h i (by have := (List.getElem?_eq_some_iff.1 hs).1; omega)).1
  rw [List.getD_eq_getElem?_getD, hs] at h1
  exact h1
theorem srv_head {L : List (Int × Int)} {S : List Nat} {n m i : Nat} {c : Nat → Nat} (hwf : WfPts L) (hin : srvIn L m) (hL : L.length = n) (hn : 0 < n) : 0 ≤ (L.getD (headAt S n c i) (0, 0)).2 ∧ (L.getD (headAt S n c i) (0, 0)).2 < m := by
  have h : headAt S n c i < L.length := by rw [hL]; exact Nat.mod_lt _ hn
  exact ⟨(hwf _ h).2.2.1, hin _ h⟩

set_option maxRecDepth 100000 in
set_option maxHeartbeats 8000000 in
theorem wn_main (a0 a1 a2 a3 : Option Addr) (n m k P c0 c1 c2 c3 : Nat) (L : List (Int × Int)) (N : List ByteArray) (Z0 : List Int) (Q : List Int) (w : World) (h0 : Row w a0 n 2 (ptCells L)) (hwf : WfPts L) (h1 : Row w a1 m 1 (N.flatMap strF)) (h2 : Row w a2 k 1 (Z0.flatMap intF)) (h3 : Row w a3 P 1 (Q.flatMap u64F)) (hQ : ∀ x ∈ Q, 0 ≤ x ∧ x ≤ 18446744073709551615)
    (hn : n ≤ 65536) (hm : m ≤ 65536) (hk : k ≤ 65536) (hP : P ≤ 65536) :
    Calls Trym.prog 7 #[.slice a0 n c0, .slice a1 m c1, .slice a2 k c2, .slice a3 P c3] w fun e w' => e = .returned (.bool true) ∧ Below w.heap.size w w' := by
  obtain ⟨i3, hi3, hz30, hz31, hz32⟩ := info_parts info3
  have HI3 := hide (And.intro hi3 (And.intro hz30 (And.intro hz31 hz32)))
  have H0 := hide h0
  have H1 := hide h1
  have H2 := hide h2
  have H3 := hide h3
  have HWF := hide hwf
  have HQ := hide hQ
  have HQl := hide (h3.llen (fun _ => rfl) (by omega))
  clear h0 h1 h2 h3 hwf hQ hi3 hz30 hz31 hz32
  have t1 : (n : Int) ≤ 65536 := by omega
  have t2 : (m : Int) ≤ 65536 := by omega
  have t3 : (k : Int) ≤ 65536 := by omega
  have t4 : (P : Int) ≤ 65536 := by omega
  go_enter Trym.func7, Trym.ntmps7
  go_wp2_with fail
  refine (bytes37 a0 a1 a2 a3 n m k P c0 c1 c2 c3 N w H1.out).mono ?_
  rintro e w0 (⟨rfl, rfl⟩ | ⟨rfl, rfl⟩)
  · go_wp2
    go_ret
    exact ⟨rfl, Below.refl _ _⟩
  go_wp2_with fail
  refine (pts_any 0 a0 n c0 w0 (by omega)).mono ?_
  rintro e w1 ⟨rfl, rfl⟩
  have hx1 := ptsTo_nonneg 0 n (by omega)
  generalize ptsTo 0 n = x1 at *
  go_wp2_with fail
  refine (strs_any x1 a1 m c1 N w1 H1.out hx1).mono ?_
  rintro e w2 ⟨x2, rfl, hx2, hx2', rfl⟩
  go_wp2_with fail
  refine (words_any x2 k w2 hx2).mono ?_
  rintro e w3 ⟨x3, rfl, hx3, hx3', rfl⟩
  go_wp2_with fail
  refine (words_any x3 P w3 hx3).mono ?_
  rintro e w4 ⟨x4, rfl, hx4, hx4', rfl⟩
  by_cases hx : 1048576 < x4
  · go_wp2
    go_ret
    exact ⟨rfl, Below.refl _ _⟩
  by_cases hn0 : n = 0
  · have y1 : (n : Int) = 0 := by omega
    go_wp2
    go_ret
    exact ⟨rfl, Below.refl _ _⟩
  have y1 : ¬ (n : Int) = 0 := by omega
  have y1b : ((n : Int) == 0) = false := beq_eq_false_iff_ne.2 y1
  by_cases hP0 : P = 0
  · have y2 : (P : Int) = 0 := by omega
    go_wp2
    go_ret
    exact ⟨rfl, Below.refl _ _⟩
  have y2 : ¬ (P : Int) = 0 := by omega
  have y2b : ((P : Int) == 0) = false := beq_eq_false_iff_ne.2 y2
  by_cases hP4 : 4 < P
  · have y3 : (4 : Int) < (P : Int) := by omega
    go_wp2
    go_ret
    exact ⟨rfl, Below.refl _ _⟩
  have y3 : ¬ (4 : Int) < (P : Int) := by omega
  have y3b : decide ((4 : Int) < (P : Int)) = false := decide_eq_false y3
  go_wp2_with fail
  refine (named_any a0 n c0 a1 m c1 L w4 H0.out HWF.out (by omega) (by omega)).mono ?_
  rintro e w5 (⟨rfl, rfl⟩ | ⟨rfl, hin, rfl⟩)
  · go_wp2
    go_ret
    exact ⟨rfl, Below.refl _ _⟩
  have HIN := hide hin
  clear hin hx1 hx2 hx2' hx3 hx3' hx4 hx4'
  go_wp2_with fail
  refine (pages_any a2 k c2 n Z0 w5 H2.out (by omega) (by omega)).mono ?_
  rintro e w6 (⟨rfl, rfl⟩ | ⟨rfl, ⟨hz, hzs⟩, rfl⟩)
  · go_wp2
    go_ret
    exact ⟨rfl, Below.refl _ _⟩
  obtain ⟨Z, rfl⟩ := int_nats Z0 (fun j x hx => (hz j x hx).1)
  rw [map_sum] at hzs
  rw [map_cells] at H2
  have HZS := hide (show Z.sum = n by omega)
  clear hz hzs
  go_wp2_with fail
  refine (inorder_any a0 n c0 a1 m c1 L N w6 H0.out HWF.out H1.out HIN.out (by omega) (by omega) (by omega)).mono ?_
  rintro e w7 (⟨rfl, hb7⟩ | ⟨rfl, hord, hb7⟩)
  · have HB7 := hide hb7
    clear hb7
    go_wp2
    go_ret
    exact ⟨rfl, HB7.out⟩
  have HG := hide (show Good L N Z Q n m k P from ⟨by omega, hn, hm, hk, by omega, by omega, HWF.out, HIN.out, HZS.out, hord, fun i hi => by
    have hlt : i < Q.length := by rw [HQl.out]; exact hi
    rw [List.getD_eq_getElem?_getD, List.getElem?_eq_getElem hlt]
    exact HQ.out _ (List.getElem_mem hlt)⟩)
  have HB7 := hide hb7
  have R0 := hide (H0.out.below hb7)
  have R1 := hide (H1.out.below hb7)
  have R2 := hide (H2.out.below hb7)
  have R3 := hide (H3.out.below hb7)
  clear hb7 hord H0 H1 H2 H3 HWF HIN HZS HQ HQl
  go_wp2_with (at_make; refine wpList_make_ob2 _ rfl _ _ 74 rfl 3 i3 (.int .i64 0) 1 Trym.underlying74 HI3.out.1 HI3.out.2.1 HI3.out.2.2.1 .i64 .i64 _ _ P P rfl rfl rfl rfl (Nat.le_refl _) (by rw [HI3.out.2.2.2]; omega) (by omega) ?_; intro w8 o8 b8)
  rw [show (Value.int .i64 0).cells = #[Value.int .i64 0] from rfl, Nat.mul_one, made_nats] at o8
  clear HI3
  go_loopw [11] (fun v wr => ∃ (i : Nat) (S : List Nat), i ≤ P ∧ v = .int .i64 i ∧ S.length = P ∧ Starts L N Q S n i ∧ OB wr w7.heap.size 3 (S.flatMap natF) ∧ Below w7.heap.size w7 wr) (fun v _ => P - (intOf v).toNat)
  case atStart => exact ⟨0, _, Nat.zero_le _, rfl, by simp, fun j hj => by omega, o8, b8⟩
  case round =>
  clear o8 b8
  obtain ⟨i, S, hi, rfl, hS, hst, hob, hbel⟩ := hrel
  by_cases hiP : i < P
  · obtain ⟨b3, o3, q, e3, l3, hq, d3⟩ := (R3.out.below hbel).u64 hiP
    subst e3
    have FA := hide (first_any a0 n c0 q L N wr (R0.out.below hbel) (by omega) (by omega))
    obtain ⟨u, d2⟩ := hob.some (j := i) (by rw [nat_len]; omega)
    have f2 := hob.frozen i
    have l2 := hob.lt
    have z1 : (i : Int) < (P : Int) := by omega
    have HO := hide hob
    have HB := hide hbel
    have HST := hide hst
    have HQI := hide hq
    have HSL := hide hS
    clear hob hbel hst hq hS
    go_wp2_with fail
    refine FA.out.mono ?_
    rintro e w' ⟨s, rfl, hs, hw⟩
    rw [hw]
    have HS := hide hs
    clear hs hw
    go_wp2
    exact ⟨⟨i + 1, S.set i s, by omega, by go_num, by rw [List.length_set]; exact HSL.out, HST.out.step HQI.out (by rw [HSL.out]; exact hiP) HS.out, by rw [nat_set]; exact HO.out.set i _, HB.out.setCell (Nat.le_refl _) _⟩, by simp [intOf]; omega⟩
  have z1 : ¬ (i : Int) < (P : Int) := by omega
  have eiP : i = P := by omega
  have HST := hide (show Starts L N Q S n P by rw [← eiP]; exact hst)
  have HSL := hide hS
  have HSR := hide (hob.row' (n := P) (sz := 1) (by rw [nat_len, hS]; omega))
  have HB8 := hide (HB7.out.trans (hbel.mono HB7.out.size))
  have S0 := hide (R0.out.below hbel)
  have S1 := hide (R1.out.below hbel)
  have S2 := hide (R2.out.below hbel)
  have S3 := hide (R3.out.below hbel)
  clear hob hbel hst hS eiP R0 R1 R2 R3 HB7
  obtain ⟨wS, rfl⟩ : ∃ x, x = wr := ⟨_, rfl⟩
  generalize w7.heap.size = gS at *
  have HSLT := hide (starts_lt HST.out HSL.out)
  go_wp2_with fail
  refine (newwalk_any a0 a1 a2 a3 (some ⟨gS, 0, none⟩) n m k P c0 c1 c2 c3 P L N Z Q S wS S0.out S1.out S2.out S3.out HSR.out HSLT.out HG.out.sum hn hm hk HG.out.p4).mono ?_
  rintro e wN ⟨gw, rfl, hnw⟩
  obtain ⟨w0, gp, gs, a5, q, pg0, ix0, hb0, hgw, hbN, hPg, hNm, hOw, hpr⟩ := hnw
  have HB0 := hide hb0
  have HBN := hide hbN
  have HPG := hide hPg
  have HNM := hide hNm
  have HOW := hide hOw
  have HPR := hide hpr
  have hSN := hide (hb0.trans (hbN.mono hb0.size))
  clear hb0 hbN hPg hNm hOw hpr
  go_wp2_with fail
  refine (order_any a0 a1 a3 (some ⟨gS, 0, none⟩) n m P c0 c1 c3 P L N Q S wN (S0.out.below hSN.out) HG.out.wf (S1.out.below hSN.out) HG.out.inn (S3.out.below hSN.out) (HSR.out.below hSN.out) HSLT.out HG.out.n0 HG.out.n1 HG.out.p4 (by omega)).mono ?_
  rintro e wO ⟨go, rfl, hgo, hoo, hbO⟩
  obtain ⟨T, hT⟩ : ∃ T, T = P * n := ⟨_, rfl⟩
  rw [← hT]
  have HT := hide hT
  have hTb : T ≤ 262144 := by
    have h5 : P * n ≤ 4 * n := Nat.mul_le_mul_right n HG.out.p4
    omega
  have HOO := hide hoo
  have HOW2 := hide (HOW.out.below HOW.out.lt hbO)
  have HB02 := hide (HBN.out.trans (hbO.mono HBN.out.size))
  have hgg : go ≠ gw := by
    have := HOW.out.lt
    omega
  clear hT hoo hbO hgo
  have T0 := hide (S0.out.below HB0.out)
  have T4 := hide (HSR.out.below HB0.out)
  clear S0 S1 S2 S3 HSR hSN
  go_wp2_with fail
  go_loopw [14] (fun v wr => ∃ (t : Nat) (c pg ix : Nat → Nat), v = .int .i64 t ∧ Met (meetKey L N Q S n) n P t c ∧ (∀ i, i < P → c i < n) ∧ (∀ i, i < P → Lies Z (headAt S n c i) (pg i) (ix i)) ∧ OB wr gw 115 (walkCells gp a5 m q pg ix c P false) ∧ OB wr go 3 ((srt (meetKey L N Q S n) 0 (P * n)).flatMap natF) ∧ Below w0.heap.size w0 wr) (fun v _ => T - (intOf v).toNat)
  case atStart =>
    refine ⟨0, _, pg0, ix0, rfl, met_zero _ n P, fun i hi => HG.out.n0, fun i hi => ?_, HOW2.out, HOO.out, HB02.out⟩
    have h6 := (HPR.out i hi).2
    unfold headAt
    rw [Nat.add_zero, Nat.mod_eq_of_lt (by rw [← HG.out.sum]; exact h6.lt)]
    exact h6
  case round =>
  clear HOO HOW2 HB02 HOW HBN
  obtain ⟨t, c, pg, ix, rfl, hmet, hc, hl, how, hoo, hb0⟩ := hrel
  have htT : t < T := by rw [HT.out]; exact met_open hmet HG.out.n0 HG.out.p0 hc
  obtain ⟨e, he⟩ : ∃ e, (srt (meetKey L N Q S n) 0 (P * n))[t]? = some e := ⟨_, List.getElem?_eq_getElem (by rw [srt_len, ← HT.out]; omega)⟩
  have d1 := ob_nat hoo he
  have y5 : (t : Int) < (T : Int) := by omega
  have HE := hide he
  have HMET := hide hmet
  have HC := hide hc
  have HL := hide hl
  have HOWR := hide how
  have HOOR := hide hoo
  have HB0R := hide hb0
  clear hmet hc hl how hoo hb0 he
  go_wp2_with fail
  refine (step_any w0 wr gw gp gs m P a5 N Z L q pg ix c (headAt S n c) HPG.out HNM.out HB0R.out hgw HOWR.out (by omega) HG.out.p0 HG.out.p4 HL.out (fun i hi => by rw [HG.out.sum]; exact HC.out i hi) (fun i hi => srv_head HG.out.wf HG.out.inn T0.out.len HG.out.n0)).mono ?_
  rintro e' w' ⟨r, p', x', hnr, rfl, hlr, ho', hgr⟩
  obtain ⟨hat, hmet'⟩ := walk_step HG.out.ord HG.out.wf T0.out.len HG.out.qwf HST.out (fun i hi => (HPR.out i hi).1) HMET.out HC.out hnr
  rw [HE.out] at hat
  have hb0' := HB0R.out.grown hgr HB0R.out.size (by intro y hy; cases hy; exact hgw)
  obtain ⟨s, g, e2, v, b1, o1, b4, o4, he2, hg, es, hSr, q1, q2, q3, hv, ea1, l1, cc1, ea4, l4, cc4⟩ := step_open (T0.out.below hb0') (T4.out.below hb0') hnr.1 (HC.out r hnr.1) HG.out.n0
  have ee : e = e2 := by rw [he2]; simpa using hat
  subst ee
  subst ea1
  cases ea4
  rw [Nat.zero_add] at cc4
  rw [hv]
  have hrP := hnr.1
  have hkn := HC.out r hrP
  have hsn := HSLT.out r s hSr
  have HM' := hide hmet'
  have HL' := hide (heads_step HG.out.sum HL.out hlr)
  have HO' := hide ho'
  have HOO' := hide (HOOR.out.grown (show some go ≠ some gw by intro h; cases h; exact hgg rfl) hgr)
  have HB' := hide hb0'
  obtain ⟨kk, hkk⟩ : ∃ x, x = c r := ⟨_, rfl⟩
  rw [← hkk] at q2 q3 hkn
  have HKK := hide hkk
  clear hat hmet' hlr ho' hgr hb0' he2 es hSr hv hnr HE HMET HL HOWR HOOR HB0R d1 hkk
  have HQ1 := hide q1
  have HQ2 := hide q2
  have HQ3 := hide q3
  clear q1 q2 q3
  have y6 : (r : Int) < (P : Int) := Int.ofNat_lt.2 hrP
  have y7 : (g : Int) < (n : Int) := Int.ofNat_lt.2 hg
  have y8 : ¬ n = 0 := hn0
  have hP65 : P ≤ 65536 := hP
  have hy9 : kk + 1 = n → (kk : Int) = (n : Int) - 1 := by omega
  have hy9' : ¬ kk + 1 = n → ¬ (kk : Int) = (n : Int) - 1 := by omega
  have HY9 := hide hy9
  have HY9' := hide hy9'
  clear hy9 hy9'
  have wr1 : wrap64 (r : Int) = r := wrap_lt hrP hP65
  have wr2 : wrap64 (kk : Int) = kk := wrap_lt hkn HG.out.n1
  have wr3 : wrap64 (g : Int) = g := wrap_lt hg HG.out.n1
  have wr4 : wrap64 ((s : Int) + kk) = s + kk := wrap_sum hsn hkn HG.out.n1
  have q1 := HQ1.out
  have q2 := HQ2.out
  have q3 := HQ3.out
  clear HQ1 HQ2 HQ3
  go_upto_region 24 with fail
  go_cut [153] (fun v wx => v = .bool false ∧ ∃ nq, wx = w'.drewN nq)
  case first =>
    have z6 : (r : Int) < 65536 := by clear wr1 wr2 wr3 wr4 q1 q2 q3; omega
    have z7 : (kk : Int) < 65536 := by clear wr1 wr2 wr3 wr4 q1 q2 q3; omega
    have z8 : (g : Int) < 65536 := by clear wr1 wr2 wr3 wr4 q1 q2 q3; omega
    have z9 : (s : Int) < 65536 := by clear wr1 wr2 wr3 wr4 q1 q2 q3; omega
    clear hn hm hk hP t1 t2 t3 t4 hn0 y1 y1b hP0 y2 y2b hP4 y3b hx y3 hi hiP z1 hTb htT y5 hg hrP hsn hkn hP65 hgw hgg HY9 HY9' HKK HM' HL' HO' HOO' HB' T0 T4 wr1 wr2 wr3 wr4
    go_quiet (fail)
    all_goals
      go_wp2
      go_meet
      exact ⟨rfl, _, rfl⟩
  case rest =>
  obtain ⟨rfl, nq, rfl⟩ := hcut
  clear q1 q3 wr1 wr2 wr3 wr4 cc1 cc4 l1 l4
  have HQ2 := hide q2
  clear q2
  have z7 : (kk : Int) < 65536 := by omega
  by_cases hend : kk + 1 = n
  · have y9 : (kk : Int) = (n : Int) - 1 := HY9.out hend
    have y9b : ((kk : Int) == (n : Int) - 1) = true := by rw [y9]; exact beq_self_eq_true _
    have HOE := hide (show OB (w'.drewN nq) gw 115 (walkCells gp a5 m q (updW pg r p') (updW ix r x') (updW c r (c r + 1)) P true) by
      have h7 := HO'.out.draws nq
      rw [decide_eq_true (show c r + 1 = Z.sum by rw [HG.out.sum, ← HKK.out]; exact hend)] at h7
      exact h7)
    have HBE := hide (below_draws HB'.out nq)
    have q2 := HQ2.out
    clear y9 hend HO' HB' HL' HM' HOO'
    go_wp2
    clear q2 y9b
    generalize w'.drewN nq = wE at *
    generalize updW pg r p' = pgE at *
    generalize updW ix r x' = ixE at *
    generalize updW c r (c r + 1) = cE at *
    go_loopw [18] (fun v wx => ∃ t : Nat, t ≤ 2 ∧ v = .int .i64 t ∧ OB wx gw 115 (walkCells gp a5 m q pgE ixE cE P true) ∧ Below w0.heap.size w0 wx) (fun v _ => 2 - (intOf v).toNat)
    case atStart => exact ⟨0, by omega, rfl, HOE.out, HBE.out⟩
    case round =>
    clear HOE HBE
    obtain ⟨t7, ht7, rfl, ho7, hb7⟩ := hrel
    have HO7 := hide ho7
    have HB7 := hide hb7
    clear ho7 hb7
    by_cases h2 : t7 < 2
    · have h2' : (t7 : Int) < 2 := by omega
      go_wp2_with fail
      refine (end_any _ gw gp m P a5 q pgE ixE cE HO7.out).mono ?_
      rintro e7 w9 ⟨rfl, hw9⟩
      rw [hw9]
      clear hw9
      go_wp2
      exact ⟨⟨t7 + 1, by omega, by go_num, HO7.out, HB7.out⟩, by simp [intOf]; omega⟩
    · have h2' : ¬ (t7 : Int) < 2 := by omega
      go_wp2
      go_ret
      exact ⟨rfl, HB8.out.trans ((HB0.out.trans (HB7.out.mono HB0.out.size)).mono HB8.out.size)⟩
  · have y9 : ¬ (kk : Int) = (n : Int) - 1 := HY9'.out hend
    have y9b : ((kk : Int) == (n : Int) - 1) = false := beq_eq_false_iff_ne.2 y9
    have HOE := hide (show OB (w'.drewN nq) gw 115 (walkCells gp a5 m q (updW pg r p') (updW ix r x') (updW c r (c r + 1)) P false) by
      have h7 := HO'.out.draws nq
      rw [decide_eq_false (show ¬ c r + 1 = Z.sum by rw [HG.out.sum, ← HKK.out]; exact hend)] at h7
      exact h7)
    have HBE := hide (below_draws HB'.out nq)
    have HCL := hide (updW_lt HC.out (show c r + 1 < n by rw [← HKK.out]; omega))
    have HOOE := hide (HOO'.out.draws nq)
    have q2 := HQ2.out
    clear hend HO' HB' HOO'
    go_wp2
    clear q2
    exact ⟨⟨t + 1, _, _, _, by go_num, HM'.out, HCL.out, HL'.out, HOE.out, HOOE.out, HBE.out⟩, by simp [intOf]; omega⟩

set_option maxRecDepth 100000 in
set_option maxHeartbeats 4000000 in
theorem wn_len (a0 a1 a2 a3 : Option Addr) (n m k P c0 c1 c2 c3 : Nat) (N : List ByteArray) (w : World) (h1 : Row w a1 m 1 (N.flatMap strF)) (h : 65536 < n ∨ 65536 < m ∨ 65536 < k ∨ 65536 < P) :
    Calls Trym.prog 7 #[.slice a0 n c0, .slice a1 m c1, .slice a2 k c2, .slice a3 P c3] w fun e w' => e = .returned (.bool true) ∧ Below w.heap.size w w' := by
  have HB := hide (bytes37 a0 a1 a2 a3 n m k P c0 c1 c2 c3 N w h1)
  clear h1
  have hx : 65536 < n ∨ (¬ 65536 < n ∧ 65536 < m) ∨ (¬ 65536 < n ∧ ¬ 65536 < m ∧ 65536 < k) ∨ (¬ 65536 < n ∧ ¬ 65536 < m ∧ ¬ 65536 < k ∧ 65536 < P) := by omega
  rcases hx with h1 | ⟨h1, h2⟩ | ⟨h1, h2, h3⟩ | ⟨h1, h2, h3, h4⟩
  · have t1 : (65536 : Int) < n := by omega
    go_enter Trym.func7, Trym.ntmps7
    go_wp2_with fail
    refine HB.out.mono ?_
    rintro e w0 (⟨rfl, rfl⟩ | ⟨rfl, rfl⟩)
    all_goals
      go_wp2
      go_ret
      exact ⟨rfl, Below.refl _ _⟩
  · have t1 : (n : Int) ≤ 65536 := by omega
    have t2 : (65536 : Int) < m := by omega
    go_enter Trym.func7, Trym.ntmps7
    go_wp2_with fail
    refine HB.out.mono ?_
    rintro e w0 (⟨rfl, rfl⟩ | ⟨rfl, rfl⟩)
    all_goals
      go_wp2
      go_ret
      exact ⟨rfl, Below.refl _ _⟩
  · have t1 : (n : Int) ≤ 65536 := by omega
    have t2 : (m : Int) ≤ 65536 := by omega
    have t3 : (65536 : Int) < k := by omega
    go_enter Trym.func7, Trym.ntmps7
    go_wp2_with fail
    refine HB.out.mono ?_
    rintro e w0 (⟨rfl, rfl⟩ | ⟨rfl, rfl⟩)
    all_goals
      go_wp2
      go_ret
      exact ⟨rfl, Below.refl _ _⟩
  · have t1 : (n : Int) ≤ 65536 := by omega
    have t2 : (m : Int) ≤ 65536 := by omega
    have t3 : (k : Int) ≤ 65536 := by omega
    have t4 : (65536 : Int) < P := by omega
    go_enter Trym.func7, Trym.ntmps7
    go_wp2_with fail
    refine HB.out.mono ?_
    rintro e w0 (⟨rfl, rfl⟩ | ⟨rfl, rfl⟩)
    all_goals
      go_wp2
      go_ret
      exact ⟨rfl, Below.refl _ _⟩

theorem wn_walk (a0 a1 a2 a3 : Option Addr) (n m k P c0 c1 c2 c3 : Nat) (L : List (Int × Int)) (N : List ByteArray) (Z0 : List Int) (Q : List Int) (w : World) (h0 : Row w a0 n 2 (ptCells L)) (hwf : WfPts L) (h1 : Row w a1 m 1 (N.flatMap strF)) (h2 : Row w a2 k 1 (Z0.flatMap intF)) (h3 : Row w a3 P 1 (Q.flatMap u64F)) (hQ : ∀ x ∈ Q, 0 ≤ x ∧ x ≤ 18446744073709551615) :
    Calls Trym.prog 7 #[.slice a0 n c0, .slice a1 m c1, .slice a2 k c2, .slice a3 P c3] w fun e w' => e = .returned (.bool true) ∧ Below w.heap.size w w' := by
  by_cases h : 65536 < n ∨ 65536 < m ∨ 65536 < k ∨ 65536 < P
  · exact wn_len a0 a1 a2 a3 n m k P c0 c1 c2 c3 N w h1 h
  · exact wn_main a0 a1 a2 a3 n m k P c0 c1 c2 c3 L N Z0 Q w h0 hwf h1 h2 h3 hQ (by omega) (by omega) (by omega) (by omega)
end Go.Proofs.Qxb6601991aMods
