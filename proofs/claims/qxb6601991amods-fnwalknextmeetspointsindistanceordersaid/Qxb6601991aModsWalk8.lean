/-
  next (59), ZZWalkNext (45).
-/
import Derived.Test.Qxb6601991aModsWalk7
import Derived.Deep.DeepCutAuto
namespace Go.Proofs.Qxb6601991aMods
open Go.ChangeShapes Go.WideShapes Go.ChangeAt Go.RowKit
set_option linter.unusedVariables false

/-- The walk's twenty cells. -/
def walkCells (gp : Nat) (a2 : Option Addr) (m : Nat) (q : Nat → Int) (pg ix c : Nat → Nat) (P : Nat) (e : Bool) : List Value :=
  [.pointer (some ⟨gp, 0, none⟩), .slice a2 m m,
   .int .u64 (q 0), .int .i64 (pg 0), .int .i64 (ix 0), .int .i64 (c 0),
   .int .u64 (q 1), .int .i64 (pg 1), .int .i64 (ix 1), .int .i64 (c 1),
   .int .u64 (q 2), .int .i64 (pg 2), .int .i64 (ix 2), .int .i64 (c 2),
   .int .u64 (q 3), .int .i64 (pg 3), .int .i64 (ix 3), .int .i64 (c 3),
   .int .i64 P, .bool e]
def updW {α : Type} (f : Nat → α) (r : Nat) (v : α) : Nat → α := fun i => if i = r then v else f i
theorem wc_probe {gp : Nat} {a2 : Option Addr} {m : Nat} {q : Nat → Int} {pg ix c : Nat → Nat} {P : Nat} {e : Bool} : ∀ {r : Nat}, r < 4 →
    (walkCells gp a2 m q pg ix c P e)[2 + r * 4]? = some (.int .u64 (q r)) ∧ (walkCells gp a2 m q pg ix c P e)[2 + r * 4 + 1]? = some (.int .i64 (pg r)) ∧
    (walkCells gp a2 m q pg ix c P e)[2 + r * 4 + 2]? = some (.int .i64 (ix r)) ∧ (walkCells gp a2 m q pg ix c P e)[2 + r * 4 + 3]? = some (.int .i64 (c r))
  | 0, _ => ⟨rfl, rfl, rfl, rfl⟩
  | 1, _ => ⟨rfl, rfl, rfl, rfl⟩
  | 2, _ => ⟨rfl, rfl, rfl, rfl⟩
  | 3, _ => ⟨rfl, rfl, rfl, rfl⟩
  | r + 4, h => by omega
theorem wc_set {gp : Nat} {a2 : Option Addr} {m : Nat} {q : Nat → Int} {pg ix c : Nat → Nat} {P : Nat} {e e' : Bool} {p' x' c' : Nat} : ∀ {r : Nat}, r < 4 →
    ((((walkCells gp a2 m q pg ix c P e).set (2 + r * 4 + 3) (.int .i64 c')).set 19 (.bool e')).set (2 + r * 4 + 1) (.int .i64 p')).set (2 + r * 4 + 2) (.int .i64 x') = walkCells gp a2 m q (updW pg r p') (updW ix r x') (updW c r c') P e'
  | 0, _ => rfl
  | 1, _ => rfl
  | 2, _ => rfl
  | 3, _ => rfl
  | r + 4, h => by omega

/-- What a probe meets next. -/
def hdKey (L : List (Int × Int)) (N : List ByteArray) (q : Nat → Int) (h : Nat → Nat) (i : Nat) : Int × List UInt8 := wKey N (L.getD (h i) (0, 0)) (q i)
/-- r is the nearest of the first i probes. -/
def Near (k : Nat → Int × List UInt8) (i r : Nat) : Prop := r < i ∧ (∀ j, j < i → lessK (k j) (k r) = false) ∧ (∀ j, j < r → lessK (k r) (k j) = true)
theorem near_one (k : Nat → Int × List UInt8) : Near k 1 0 := ⟨by omega, fun j hj => by rw [show j = 0 by omega]; exact lessK_irr _, fun j hj => by omega⟩
theorem Near.keep {k : Nat → Int × List UInt8} {i r : Nat} (h : Near k i r) (hl : lessK (k i) (k r) = false) : Near k (i + 1) r := by
  obtain ⟨h1, h2, h3⟩ := h
  refine ⟨by omega, fun j hj => ?_, h3⟩
  by_cases e : j = i
  · rw [e]; exact hl
  · exact h2 j (by omega)
theorem Near.turn {k : Nat → Int × List UInt8} {i r : Nat} (h : Near k i r) (hl : lessK (k i) (k r) = true) : Near k (i + 1) i := by
  obtain ⟨h1, h2, h3⟩ := h
  have h4 : ∀ j, j < i → lessK (k i) (k j) = true := by
    intro j hj
    cases h5 : lessK (k i) (k j) with
    | true => rfl
    | false => rw [leK_trans (h2 j hj) h5] at hl; cases hl
  refine ⟨by omega, fun j hj => ?_, h4⟩
  by_cases e : j = i
  · rw [e]; exact lessK_irr _
  · exact lessK_asym (h4 j (by omega))

theorem wc_setc {gp : Nat} {a2 : Option Addr} {m : Nat} {q : Nat → Int} {pg ix c : Nat → Nat} {P : Nat} {e : Bool} {c' : Nat} : ∀ {r : Nat}, r < 4 →
    (walkCells gp a2 m q pg ix c P e).set (2 + r * 4 + 3) (.int .i64 c') = walkCells gp a2 m q pg ix (updW c r c') P e
  | 0, _ => rfl
  | 1, _ => rfl
  | 2, _ => rfl
  | 3, _ => rfl
  | r + 4, h => by omega
theorem wc_sete {gp : Nat} {a2 : Option Addr} {m : Nat} {q : Nat → Int} {pg ix c : Nat → Nat} {P : Nat} {e e' : Bool} : (walkCells gp a2 m q pg ix c P e).set 19 (.bool e') = walkCells gp a2 m q pg ix c P e' := rfl
theorem wc_setp {gp : Nat} {a2 : Option Addr} {m : Nat} {q : Nat → Int} {pg ix c : Nat → Nat} {P : Nat} {e : Bool} {p' : Nat} : ∀ {r : Nat}, r < 4 →
    (walkCells gp a2 m q pg ix c P e).set (2 + r * 4 + 1) (.int .i64 p') = walkCells gp a2 m q (updW pg r p') ix c P e
  | 0, _ => rfl
  | 1, _ => rfl
  | 2, _ => rfl
  | 3, _ => rfl
  | r + 4, h => by omega
theorem wc_setx {gp : Nat} {a2 : Option Addr} {m : Nat} {q : Nat → Int} {pg ix c : Nat → Nat} {P : Nat} {e : Bool} {x' : Nat} : ∀ {r : Nat}, r < 4 →
    (walkCells gp a2 m q pg ix c P e).set (2 + r * 4 + 2) (.int .i64 x') = walkCells gp a2 m q pg (updW ix r x') c P e
  | 0, _ => rfl
  | 1, _ => rfl
  | 2, _ => rfl
  | 3, _ => rfl
  | r + 4, h => by omega
theorem updW_self {α : Type} (f : Nat → α) (r : Nat) (v : α) : updW f r v r = v := by unfold updW; rw [if_pos rfl]
theorem below_drew0 {B : Nat} {a w : World} (h : Below B a w) : Below B a w.drew := h.drew
theorem undrew2 {W w1 : World} (hb : Below W.drew.heap.size W.drew w1) : Below W.heap.size W w1 := ⟨hb.os, hb.tape, hb.output, hb.size, hb.block⟩

theorem grown_of {w w' : World} (h : Below w.heap.size w w') {r : Option Nat} : w.grownBy w' r := ⟨h.os, h.tape, h.output, h.size, fun k hk _ => h.block k hk⟩
theorem grown_put {w w' : World} {g : Nat} (h : w.grownBy w' (some g)) (o : Nat) (v : Value) : w.grownBy (w'.setCell ⟨g, o, none⟩ v) (some g) :=
  ⟨h.os, h.tape, h.output, by simpa [World.setCell] using h.size, fun k hk hr => (Below.heap_setCell _ _ _ _ (by intro e; exact hr (by rw [e]))).trans (h.block k hk hr)⟩
theorem grown_drew {w w' : World} {r : Option Nat} (h : w.grownBy w' r) : w.grownBy w'.drew r := ⟨h.os, h.tape, h.output, h.size, h.block⟩
theorem eq_dec (c n : Nat) : ((c : Int) + 1 == (n : Int)) = decide (c + 1 = n) := by
  by_cases h : c + 1 = n
  · rw [decide_eq_true h, beq_iff_eq]; omega
  · rw [decide_eq_false h]; exact beq_eq_false_iff_ne.2 (by omega)
theorem put_two {w : World} {gw gp : Nat} {a2 : Option Addr} {m : Nat} {q : Nat → Int} {pg ix c : Nat → Nat} {P : Nat} {e : Bool} {r : Nat} (h : OB w gw 115 (walkCells gp a2 m q pg ix c P e)) (hr : r < 4) (p' x' : Nat) :
    OB ((w.setCell ⟨gw, 2 + r * 4 + 1, none⟩ (.int .i64 p')).setCell ⟨gw, 2 + r * 4 + 2, none⟩ (.int .i64 x')).drew gw 115 (walkCells gp a2 m q (updW pg r p') (updW ix r x') c P e) := by
  have h1 := ((h.set (2 + r * 4 + 1) (.int .i64 p')).set (2 + r * 4 + 2) (.int .i64 x')).drew
  rw [wc_setp hr, wc_setx hr] at h1
  exact h1
theorem two_new (w : World) (p s : Int) : OB (((w.alloc (.cells #[.int .u64 p, .int .u32 s] 37)).alloc (.cells #[.int .u64 p, .int .u32 s] 37)).drew) w.heap.size 37 [.int .u64 p, .int .u32 s] ∧ OB (((w.alloc (.cells #[.int .u64 p, .int .u32 s] 37)).alloc (.cells #[.int .u64 p, .int .u32 s] 37)).drew) (w.heap.size + 1) 37 [.int .u64 p, .int .u32 s] := by
  refine ⟨((OB.new w 37 [.int .u64 p, .int .u32 s]).alloc _).drew, ?_⟩
  have h := OB.new (w.alloc (.cells #[.int .u64 p, .int .u32 s] 37)) 37 [.int .u64 p, .int .u32 s]
  rw [show (w.alloc (.cells #[.int .u64 p, .int .u32 s] 37)).heap.size = w.heap.size + 1 by simp] at h
  exact h.drew

set_option maxRecDepth 100000 in
set_option maxHeartbeats 4000000 in
theorem walk_any0 (w0 w : World) (gw gp gs m P n : Nat) (a2 : Option Addr) (N : List ByteArray) (q po sv : Nat → Int) (pg ix c : Nat → Nat) (k : Nat → Int × List UInt8) (R : Nat → Nat → Nat → Prop)
    (hb : Below w0.heap.size w0 w) (hgw : w0.heap.size ≤ gw) (hgp : gp < w0.heap.size) (hn : w0.cell? ⟨gp, 2, none⟩ = some (.int .i64 n))
    (ho : OB w gw 115 (walkCells gp a2 m q pg ix c P false)) (p0 : 0 < P) (p4 : P ≤ 4) (hc : ∀ i, i < P → c i < 1048576) 
    (HAT : Hid (∀ i, i < P → ∀ wr, Below w0.heap.size w0 wr → Calls Trym.prog 61 #[.pointer (some ⟨gp, 0, none⟩), .int .i64 (pg i), .int .i64 (ix i)] wr fun e w' => e = .returned (.agg #[.int .u64 (po i), .int .u32 (sv i)]) ∧ w' = wr.alloc (.cells #[.int .u64 (po i), .int .u32 (sv i)] 37)))
    (HBF : Hid (∀ i r, i < P → r < P → ∀ wr, Below w.heap.size w wr → Calls Trym.prog 62 #[.pointer (some ⟨gw, 0, none⟩), .agg #[.int .u64 (po i), .int .u32 (sv i)], .int .u64 (q i), .agg #[.int .u64 (po r), .int .u32 (sv r)], .int .u64 (q r)] wr fun e w' => e = .returned (.bool (lessK (k i) (k r))) ∧ Below wr.heap.size wr w'))
    (HNX : Hid (∀ i, i < P → ∀ wr, Below w0.heap.size w0 wr → Calls Trym.prog 63 #[.pointer (some ⟨gp, 0, none⟩), .int .i64 (pg i), .int .i64 (ix i)] wr fun e w' => ∃ p' x' : Nat, e = .returned (.tuple #[.int .i64 p', .int .i64 x']) ∧ R i p' x' ∧ w' = wr)) :
    Calls Trym.prog 59 #[.pointer (some ⟨gw, 0, none⟩)] w fun e w' => ∃ r p' x' : Nat, Near k P r ∧ e = .returned (.tuple #[.int .u32 (sv r), .bool true]) ∧
      R r p' x' ∧ OB w' gw 115 (walkCells gp a2 m q (updW pg r p') (updW ix r x') (updW c r (c r + 1)) P (decide (c r + 1 = n))) ∧ w.grownBy w' (some gw) := by
  have HO := hide ho
  have HBW := hide hb
  have HC := hide hc
  have HN := hide hn
  have d0 : w.cell? ⟨gw, 0, none⟩ = some (.pointer (some ⟨gp, 0, none⟩)) := ho.cell 0
  have d3 : w.cell? ⟨gw, 3, none⟩ = some (.int .i64 (pg 0)) := ho.cell 3
  have d4 : w.cell? ⟨gw, 4, none⟩ = some (.int .i64 (ix 0)) := ho.cell 4
  have d19 : w.cell? ⟨gw, 19, none⟩ = some (.bool false) := ho.cell 19
  have hgl := ho.lt
  have HA0 := hide (fun (wr : World) (hbr : Below w.heap.size w wr) => HAT.out 0 p0 wr (hb.trans (hbr.mono hb.size)))
  clear ho hb hc hn
  go_enter Trym.func59, Trym.ntmps59
  go_upto_region 4 with fail
  go_cut [5] (fun v wc => ∃ gm, v = .pointer (some ⟨gm, 0, none⟩) ∧ w.heap.size ≤ gm ∧ OB wc gm 37 [.int .u64 (po 0), .int .u32 (sv 0)] ∧ Below w.heap.size w wc)
  case first =>
    go_region_held3 (fun w' => gw < w'.heap.size ∧ w'.cell? ⟨gw, 0, none⟩ = some (.pointer (some ⟨gp, 0, none⟩)) ∧ w'.cell? ⟨gw, 3, none⟩ = some (.int .i64 (pg 0)) ∧ w'.cell? ⟨gw, 4, none⟩ = some (.int .i64 (ix 0))) (first | (simp [go_sem, *]; done) | (simp [go_sem, *]; omega)) ((go_at_call 61; refine (HA0.out _ (by go_grown)).mono ?_; rintro e w' ⟨rfl, rfl⟩))
    all_goals
      go_wp2
      go_meet
      first
      | exact ⟨_, rfl, by simp, (two_new w _ _).2, by go_grown⟩
      | exact ⟨_, rfl, by simp, (two_new w _ _).1, by go_grown⟩
  case rest =>
  obtain ⟨gm, rfl, hgm, hom, hbm⟩ := hcut
  have HOM := hide hom
  have HBM := hide hbm
  clear hom hbm d3 d4 d19 HA0
  go_wp2_with fail
  go_loopw [4, 6] (fun v4 v6 wr => ∃ i r : Nat, v4 = .pointer (some ⟨gw, 2 + r * 4, none⟩) ∧ v6 = .int .i64 i ∧ i ≤ P ∧ Near k i r ∧ OB wr gm 37 [.int .u64 (po r), .int .u32 (sv r)] ∧ Below w.heap.size w wr) (fun _ v6 _ => P - (intOf v6).toNat)
  case atStart => exact ⟨1, 0, rfl, rfl, p0, near_one k, HOM.out, HBM.out⟩
  case round =>
  clear HOM HBM
  obtain ⟨i, r, rfl, rfl, hiP, hnr, hom, hbm⟩ := hrel
  have hri := hnr.1
  have HNR := hide hnr
  have HOM := hide hom
  have HBM := hide hbm
  have e0 := (bcell1 hbm _ _ hgl).trans d0
  have e18 : wr.cell? ⟨gw, 18, none⟩ = some (.int .i64 P) := (bcell1 hbm _ _ hgl).trans (HO.out.cell 18)
  have hgl' : gw < wr.heap.size := Nat.lt_of_lt_of_le hgl hbm.size
  have hgml := hom.lt
  clear hom hnr
  by_cases hlt : i < P
  · have hi4 : i < 4 := by omega
    have b1 : (i : Int) < (P : Int) := by omega
    have b2 : (i : Int) < 4 := by omega
    have f0 := (bcell1 hbm _ _ hgl).trans ((HO.out.cell (2 + i * 4)).trans (wc_probe hi4).1)
    have f1 := (bcell1 hbm _ _ hgl).trans ((HO.out.cell (2 + i * 4 + 1)).trans (wc_probe hi4).2.1)
    have f2 := (bcell1 hbm _ _ hgl).trans ((HO.out.cell (2 + i * 4 + 2)).trans (wc_probe hi4).2.2.1)
    have r0 := (bcell1 hbm _ _ hgl).trans ((HO.out.cell (2 + r * 4)).trans (wc_probe (r := r) (by omega)).1)
    have HA1 := hide (fun (wx : World) (hbr : Below wr.heap.size wr wx) => HAT.out i hlt wx ((HBW.out.trans (hbm.mono HBW.out.size)).trans (hbr.mono (Nat.le_trans HBW.out.size hbm.size))))
    have HB1 := hide (fun (wx : World) (hbr : Below wr.heap.size wr wx) => HBF.out i r hlt (by omega) wx (hbm.trans (hbr.mono hbm.size)))
    clear hbm d0
    go_upto_region 9 with fail
    go_cut [8] (fun v wc => ∃ gq, v = .pointer (some ⟨gq, 0, none⟩) ∧ wr.heap.size ≤ gq ∧ OB wc gq 37 [.int .u64 (po i), .int .u32 (sv i)] ∧ Below wr.heap.size wr wc)
    case first =>
      go_region_held3 (fun w' => gw < w'.heap.size ∧ w'.cell? ⟨gw, 0, none⟩ = some (.pointer (some ⟨gp, 0, none⟩)) ∧ w'.cell? ⟨gw, 2 + i * 4 + 1, none⟩ = some (.int .i64 (pg i)) ∧ w'.cell? ⟨gw, 2 + i * 4 + 2, none⟩ = some (.int .i64 (ix i))) (first | (simp [go_sem, *]; done) | (simp [go_sem, *]; omega)) ((go_at_call 61; refine (HA1.out _ (by go_grown)).mono ?_; rintro e w' ⟨rfl, rfl⟩))
      all_goals
        go_wp2
        go_meet
        first
        | exact ⟨_, rfl, by simp, (two_new wr _ _).2, by go_grown⟩
        | exact ⟨_, rfl, by simp, (two_new wr _ _).1, by go_grown⟩
    case rest =>
    obtain ⟨gq, rfl, hgq, hoq, hbq⟩ := hcut
    obtain ⟨wq, rfl⟩ : ∃ x, x = wc := ⟨_, rfl⟩
    have omq := HOM.out.below hgml hbq
    have g0 := (bcell1 hbq _ _ hgl').trans f0
    have g1 := (bcell1 hbq _ _ hgl').trans r0
    have m0 : wq.cell? ⟨gm, 0, none⟩ = some (.int .u64 (po r)) := omq.cell 0
    have m1 : wq.cell? ⟨gm, 1, none⟩ = some (.int .u32 (sv r)) := omq.cell 1
    have n0 : wq.cell? ⟨gq, 0, none⟩ = some (.int .u64 (po i)) := hoq.cell 0
    have n1 : wq.cell? ⟨gq, 1, none⟩ = some (.int .u32 (sv i)) := hoq.cell 1
    have hglq : gw < wq.heap.size := Nat.lt_of_lt_of_le hgl' hbq.size
    have hgmq := omq.lt
    have hgqq := hoq.lt
    have HB2 := hide (fun (wx : World) (hbr : Below wq.heap.size wq wx) => HB1.out wx (hbq.trans (hbr.mono hbq.size)))
    have HOMQ := hide omq
    have HOQ := hide hoq
    have HBQ := hide hbq
    clear omq hoq hbq HB1 HA1 HOM f1 f2
    go_upto_region 10 with fail
    go_cut [67] (fun v wx => v = .bool (lessK (k i) (k r)) ∧ Below wq.heap.size wq wx)
    case first =>
      go_region_held3 (fun w' => gw < w'.heap.size ∧ gm < w'.heap.size ∧ gq < w'.heap.size ∧ w'.cell? ⟨gw, 2 + i * 4, none⟩ = some (.int .u64 (q i)) ∧ w'.cell? ⟨gw, 2 + r * 4, none⟩ = some (.int .u64 (q r)) ∧ w'.cell? ⟨gm, 0, none⟩ = some (.int .u64 (po r)) ∧ w'.cell? ⟨gm, 1, none⟩ = some (.int .u32 (sv r)) ∧ w'.cell? ⟨gq, 0, none⟩ = some (.int .u64 (po i)) ∧ w'.cell? ⟨gq, 1, none⟩ = some (.int .u32 (sv i))) (first | (simp [go_sem, *]; done) | (simp [go_sem, *]; omega)) ((go_at_call 62; refine (HB2.out _ (by go_grown)).mono ?_; rintro e w' ⟨rfl, hb'⟩; have hcc := bcell1 (undrew2 hb'); have hsz := (undrew2 hb').size))
      all_goals
        go_wp2
        go_meet
        exact ⟨rfl, undrew2 (by assumption)⟩
    case rest =>
    obtain ⟨rfl, hbx⟩ := hcut
    have omx := HOMQ.out.below hgmq hbx
    have oqx := HOQ.out.below hgqq hbx
    have HBX := hide (HBM.out.trans ((HBQ.out.trans (hbx.mono HBQ.out.size)).mono HBM.out.size))
    have x0 : wc.cell? ⟨gm, 0, none⟩ = some (.int .u64 (po r)) := omx.cell 0
    have x1 : wc.cell? ⟨gm, 1, none⟩ = some (.int .u32 (sv r)) := omx.cell 1
    have xf0 := omx.frozen 0
    have xf1 := omx.frozen 1
    have y0 : wc.cell? ⟨gq, 0, none⟩ = some (.int .u64 (po i)) := oqx.cell 0
    have y1 : wc.cell? ⟨gq, 1, none⟩ = some (.int .u32 (sv i)) := oqx.cell 1
    have hqm : gq ≠ gm := by omega
    have HOX := hide omx
    clear omx oqx hbx HBQ HOQ HOMQ HB2 g0 g1 m0 m1 n0 n1 HBM
    cases hl : lessK (k i) (k r) with
    | true =>
      have HNT := hide (HNR.out.turn hl)
      clear hl HNR
      go_wp2
      go_region
      go_wp2
      exact ⟨⟨i + 1, i, rfl, by go_num, by omega, HNT.out, ((HOX.out.set 0 _).set 1 _).drew, ((HBX.out.setCell hgm _).setCell hgm _).drew⟩, by simp [intOf]; omega⟩
    | false =>
      have HNT := hide (HNR.out.keep hl)
      clear hl HNR x0 x1 xf0 xf1 y0 y1
      go_wp2
      exact ⟨⟨i + 1, r, rfl, by go_num, by omega, HNT.out, HOX.out, HBX.out⟩, by simp [intOf]; omega⟩
  · have eiP : i = P := by omega
    have hr4 : r < 4 := by omega
    have hrP : r < P := by omega
    have HNP := hide (show Near k P r by rw [← eiP]; exact HNR.out)
    have owr := HO.out.below hgl hbm
    have r3 := (owr.cell (2 + r * 4 + 3)).trans (wc_probe hr4).2.2.2
    have rf3 := owr.frozen (2 + r * 4 + 3)
    have hcr := HC.out r hrP
    have HOW := hide owr
    have hn3 : wr.cell? ⟨gp, 2, none⟩ = some (.int .i64 n) := ((HBW.out.trans (hbm.mono HBW.out.size)).cell (p := ⟨gp, 2, none⟩) hgp).trans HN.out
    clear eiP HNR owr hbm HAT HBF HC HN
    go_upto_region 13 with fail
    have o1 : OB (wr.setCell ⟨gw, 2 + r * 4 + 3, none⟩ (.int .i64 ((c r : Int) + 1))) gw 115 (walkCells gp a2 m q pg ix (updW c r (c r + 1)) P false) := by
      have h := HOW.out.set (2 + r * 4 + 3) (.int .i64 ((c r + 1 : Nat) : Int))
      rw [wc_setc hr4] at h
      rw [show ((c r : Int) + 1) = ((c r + 1 : Nat) : Int) by simp]
      exact h
    have hb1 : w.grownBy (wr.setCell ⟨gw, 2 + r * 4 + 3, none⟩ (.int .i64 ((c r : Int) + 1))) (some gw) := grown_put (grown_of HBM.out) _ _
    have hn4 : (wr.setCell ⟨gw, 2 + r * 4 + 3, none⟩ (.int .i64 ((c r : Int) + 1))).cell? ⟨gp, 2, none⟩ = some (.int .i64 n) := (World.cell?_of_block (Below.heap_setCell _ _ _ _ (by show gp ≠ gw; omega))).trans hn3
    have s0 : (wr.setCell ⟨gw, 2 + r * 4 + 3, none⟩ (.int .i64 ((c r : Int) + 1))).cell? ⟨gm, 1, none⟩ = some (.int .u32 (sv r)) := (HOM.out.other (show gm ≠ gw by omega) _).cell 1
    have hgm1 : gm < (wr.setCell ⟨gw, 2 + r * 4 + 3, none⟩ (.int .i64 ((c r : Int) + 1))).heap.size := by simpa using hgml
    generalize wr.setCell ⟨gw, 2 + r * 4 + 3, none⟩ (.int .i64 ((c r : Int) + 1)) = w1 at *
    have c3 : w1.cell? ⟨gw, 2 + r * 4 + 3, none⟩ = some (.int .i64 ((c r : Int) + 1)) := by
      rw [o1.cell, (wc_probe hr4).2.2.2, updW_self]; simp
    have c0 : w1.cell? ⟨gw, 0, none⟩ = some (.pointer (some ⟨gp, 0, none⟩)) := o1.cell 0
    have c19 : w1.cell? ⟨gw, 19, none⟩ = some (.bool false) := o1.cell 19
    have cf19 := o1.frozen 19
    have hgw1 := o1.lt
    have HO1 := hide o1
    have HG1 := hide hb1
    clear o1 hb1 HOM HOW e0 e18 r3 rf3 hn3
    go_region
    have o2 : OB (w1.setCell ⟨gw, 19, none⟩ (.bool ((c r : Int) + 1 == (n : Int)))).drew gw 115 (walkCells gp a2 m q pg ix (updW c r (c r + 1)) P (decide (c r + 1 = n))) := by
      have h := (HO1.out.set 19 (.bool (decide (c r + 1 = n)))).drew
      rw [wc_sete] at h
      rw [eq_dec]
      exact h
    have hg2 : w.grownBy (w1.setCell ⟨gw, 19, none⟩ (.bool ((c r : Int) + 1 == (n : Int)))).drew (some gw) := grown_drew (grown_put HG1.out _ _)
    have s2 : (w1.setCell ⟨gw, 19, none⟩ (.bool ((c r : Int) + 1 == (n : Int)))).drew.cell? ⟨gm, 1, none⟩ = some (.int .u32 (sv r)) := (World.cell?_of_block (Below.heap_setCell _ _ _ _ (by show gm ≠ gw; omega))).trans s0
    have hgm2 : gm < (w1.setCell ⟨gw, 19, none⟩ (.bool ((c r : Int) + 1 == (n : Int)))).drew.heap.size := by simpa using hgm1
    generalize (w1.setCell ⟨gw, 19, none⟩ (.bool ((c r : Int) + 1 == (n : Int)))).drew = w2 at *
    have c0 : w2.cell? ⟨gw, 0, none⟩ = some (.pointer (some ⟨gp, 0, none⟩)) := o2.cell 0
    have c1 := (o2.cell (2 + r * 4 + 1)).trans (wc_probe hr4).2.1
    have c2 := (o2.cell (2 + r * 4 + 2)).trans (wc_probe hr4).2.2.1
    have cf1 := o2.frozen (2 + r * 4 + 1)
    have cf2 := o2.frozen (2 + r * 4 + 2)
    have hgw2 := o2.lt
    have HO2 := hide o2
    have HG2 := hide hg2
    have HN2 := hide (fun (wx : World) (hbr : Below w2.heap.size w2 wx) => HNX.out r hrP wx ((HBW.out.grown hg2 HBW.out.size (by intro y hy; cases hy; exact hgw)).trans (hbr.mono (Nat.le_trans HBW.out.size hg2.size))))
    have hmw : gm ≠ gw := by omega
    clear o2 hg2 HO1 HG1 HNX s0 hgm1 c3 c19 cf19 hgw1 hn4
    go_wp2_with fail
    go_region_with (go_at_call 63; refine (HN2.out _ (by go_grown)).mono ?_; rintro e w' ⟨p', x', rfl, hR, rfl⟩)
    all_goals
      go_wp2
      go_returns
      exact ⟨r, p', x', HNP.out, rfl, hR, put_two HO2.out hr4 p' x', grown_drew (grown_put (grown_put HG2.out _ _) _ _)⟩

theorem walk_ended (w : World) (gw gp m P : Nat) (a2 : Option Addr) (q : Nat → Int) (pg ix c : Nat → Nat) (ho : OB w gw 115 (walkCells gp a2 m q pg ix c P true)) :
    Calls Trym.prog 59 #[.pointer (some ⟨gw, 0, none⟩)] w fun e w' => e = .returned (.tuple #[.int .u32 0, .bool false]) ∧ w' = w := by
  have d19 : w.cell? ⟨gw, 19, none⟩ = some (.bool true) := ho.cell 19
  clear ho
  go_enter Trym.func59, Trym.ntmps59
  go_wp2
  go_returns
  exact ⟨rfl, rfl⟩

theorem zzWalkNext {v1 : Value} {w : World} {R : Ending → World → Prop} (h : Calls Trym.prog 59 #[v1] w R) (hR : ∀ e w', R e w' → ∃ v v', e = .returned (.tuple #[v, v'])) : Calls Trym.prog 45 #[v1] w R := by
  have H := hide h
  have HR := hide hR
  clear h hR
  go_enter Trym.func45, Trym.ntmps45
  go_wp2_with fail
  refine H.out.mono ?_
  intro e w' hr
  obtain ⟨v, v', rfl⟩ := HR.out e w' hr
  have HHr := hide hr
  clear hr
  go_wp2
  first | exact HHr.out | (go_returns; exact HHr.out)

theorem end_any (w : World) (gw gp m P : Nat) (a2 : Option Addr) (q : Nat → Int) (pg ix c : Nat → Nat) (ho : OB w gw 115 (walkCells gp a2 m q pg ix c P true)) :
    Calls Trym.prog 45 #[.pointer (some ⟨gw, 0, none⟩)] w fun e w' => e = .returned (.tuple #[.int .u32 0, .bool false]) ∧ w' = w :=
  zzWalkNext (walk_ended w gw gp m P a2 q pg ix c ho) (by rintro e w' ⟨rfl, _⟩; exact ⟨_, _, rfl⟩)

theorem step_any (w0 w : World) (gw gp gs m P : Nat) (a2 : Option Addr) (N : List ByteArray) (Z : List Nat) (L : List (Int × Int)) (q : Nat → Int) (pg ix c h : Nat → Nat)
    (hP : Pages w0 gp gs Z L) (hN : Row w0 a2 m 1 (N.flatMap strF)) (hb : Below w0.heap.size w0 w) (hgw : w0.heap.size ≤ gw)
    (ho : OB w gw 115 (walkCells gp a2 m q pg ix c P false)) (hm : m ≤ 1048576) (p0 : 0 < P) (p4 : P ≤ 4) (hl : ∀ i, i < P → Lies Z (h i) (pg i) (ix i)) (hc : ∀ i, i < P → c i < Z.sum)
    (hs : ∀ i, i < P → 0 ≤ (L.getD (h i) (0, 0)).2 ∧ (L.getD (h i) (0, 0)).2 < m) :
    Calls Trym.prog 45 #[.pointer (some ⟨gw, 0, none⟩)] w fun e w' => ∃ r p' x' : Nat, Near (hdKey L N q h) P r ∧ e = .returned (.tuple #[.int .u32 (L.getD (h r) (0, 0)).2, .bool true]) ∧
      Lies Z ((h r + 1) % Z.sum) p' x' ∧ OB w' gw 115 (walkCells gp a2 m q (updW pg r p') (updW ix r x') (updW c r (c r + 1)) P (decide (c r + 1 = Z.sum))) ∧ w.grownBy w' (some gw) := by
  refine zzWalkNext (walk_any0 w0 w gw gp gs m P Z.sum a2 N q (fun i => (L.getD (h i) (0, 0)).1) (fun i => (L.getD (h i) (0, 0)).2) pg ix c (hdKey L N q h) (fun i p' x' => Lies Z ((h i + 1) % Z.sum) p' x') hb hgw hP.ltp hP.c2 ho p0 p4
    (fun i hi => Nat.lt_of_lt_of_le (hc i hi) hP.sum) ?_ ?_ ?_) (by rintro e w' ⟨r, p', x', _, rfl, _⟩; exact ⟨_, _, rfl⟩)
  · exact fun i hi wr hbr => at_any gp gs (h i) (pg i) (ix i) Z L wr (hP.below hbr) (hl i hi)
  · exact fun i r hi hr wr hbr => before_any gw m a2 N (L.getD (h i) (0, 0)).1 (L.getD (h i) (0, 0)).2 (q i) (L.getD (h r) (0, 0)).1 (L.getD (h r) (0, 0)).2 (q r) wr (Nat.lt_of_lt_of_le ho.lt hbr.size) ((bcell1 hbr _ _ ho.lt).trans (ho.cell 1)) (hN.below (hb.trans (hbr.mono hb.size))) hm (hs i hi).1 (hs i hi).2 (hs r hr).1 (hs r hr).2
  · exact fun i hi wr hbr => next_any gp gs (h i) (pg i) (ix i) Z L wr (hP.below hbr) (hl i hi)
end Go.Proofs.Qxb6601991aMods
