/-
  ZZMakePoint (18), zzToRing (15), zzIs (19), zzSameAs (17).
-/
import Derived.Test.Qxb6601991aModsStay1
namespace Go.Proofs.Qxb6601991aMods
open Go.ChangeShapes Go.WideShapes Go.ChangeAt Go.RowKit
set_option linter.unusedVariables false

theorem mkPoint (p s : Int) (w : World) : Calls Trym.prog 18 #[.int .u64 p, .int .u32 s] w fun e w' => e = .returned (.agg #[.int .u64 p, .int .u32 s]) ∧ w' = w.alloc (.cells #[.int .u64 p, .int .u32 s] 37) := by
  go_enter Trym.func18, Trym.ntmps18
  go_wp2
  go_returns
  exact ⟨rfl, rfl⟩

/-- Two lists of points of one length that agree at every place. -/
theorem pts_ext {M L : List (Int × Int)} {n : Nat} (h1 : M.length = n) (h2 : L.length = n) (h : ∀ j, j < n → M.getD j (0, 0) = L.getD j (0, 0)) : M = L := by
  apply List.ext_getElem?
  intro j
  by_cases hjn : j < n
  · have := h j hjn
    simp only [List.getD_eq_getElem?_getD] at this
    rw [List.getElem?_eq_getElem (by omega), List.getElem?_eq_getElem (by omega)] at this ⊢
    simpa using this
  · rw [List.getElem?_eq_none (by omega), List.getElem?_eq_none (by omega)]
/-- The k-th is set: one place more agrees. -/
theorem pts_step {M L : List (Int × Int)} {k : Nat} {pt : Int × Int} (hk : k < M.length) (hp : L.getD k (0, 0) = pt) (h : ∀ j, j < k → M.getD j (0, 0) = L.getD j (0, 0)) : ∀ j, j < k + 1 → (M.set k pt).getD j (0, 0) = L.getD j (0, 0) := by
  intro j hj
  by_cases e : j = k
  · subst e; rw [hp]; simp [List.getD_eq_getElem?_getD, hk]
  · have := h j (by omega)
    simp only [List.getD_eq_getElem?_getD] at this ⊢
    rw [List.getElem?_set_ne (by omega)]; exact this
theorem ob_round {w wr : World} {B g t k : Nat} {M : List (Int × Int)} {p s : Int} {o : Obj} (h : OB wr g t (ptCells M)) (hk : k < M.length) (hb : Below B w wr) (hB : B ≤ g) (hz : B ≤ wr.heap.size) :
    OB ((((wr.setCell ⟨g, k * 2, none⟩ (.int .u64 p)).setCell ⟨g, k * 2 + 1, none⟩ (.int .u32 s)).alloc o).drew) g t (ptCells (M.set k (p, s))) ∧
    Below B w ((((wr.setCell ⟨g, k * 2, none⟩ (.int .u64 p)).setCell ⟨g, k * 2 + 1, none⟩ (.int .u32 s)).alloc o).drew) :=
  ⟨((h.setPt hk p s).alloc o).drew, (((hb.setCell hB _).setCell hB _).alloc (by simpa using hz) _).drew⟩

set_option maxRecDepth 100000 in
set_option maxHeartbeats 2000000 in
theorem toRing (a : Option Addr) (n c : Nat) (L : List (Int × Int)) (w : World) (hr : Row w a n 2 (ptCells L)) (hn : n ≤ 65536) :
    Calls Trym.prog 15 #[.slice a n c] w fun e w' => ∃ g, e = .returned (.slice (some ⟨g, 0, none⟩) n n) ∧ w.heap.size ≤ g ∧ OB w' g 37 (ptCells L) ∧ Below w.heap.size w w' := by
  obtain ⟨i0, hi, hz0, hz1, hz2⟩ := info_parts info37
  have HR := hide hr
  clear hr
  go_enter Trym.func15, Trym.ntmps15
  go_wp2_with (at_make; refine wpList_make_full _ rfl _ _ 30 rfl w.heap.size 37 i0 (.agg #[.int .u64 0, .int .u32 0]) 2 Trym.underlying30 hi hz0 hz1 .i64 .i64 _ _ n rfl rfl rfl rfl (by rw [hz2]; omega) (by unfold maxLen; omega) (Nat.le_refl _) ?_; intro w1 o1 g1)
  have ho1 : OB w1 w.heap.size 37 (ptCells (List.replicate n (0, 0))) := by
    have := own_full o1
    rw [show (Value.agg #[Value.int .u64 0, Value.int .u32 0]).cells = #[Value.int .u64 0, Value.int .u32 0] from rfl, made_pts] at this
    exact this
  have hb1 : Below w.heap.size w w1 := grown_below g1 (Nat.le_refl _) (fun _ h => by cases h)
  clear o1 g1 hi hz0 hz1 hz2
  go_loopw [4] (fun i wr => ∃ k : Nat, k ≤ n ∧ i = .int .i64 k ∧ ∃ M : List (Int × Int), M.length = n ∧ (∀ j, j < k → M.getD j (0, 0) = L.getD j (0, 0)) ∧ OB wr w.heap.size 37 (ptCells M) ∧ Below w.heap.size w wr) (fun i _ => n - (intOf i).toNat)
  case atStart => exact ⟨0, Nat.zero_le _, rfl, _, by simp, fun j hj => by omega, ho1, hb1⟩
  case round =>
    obtain ⟨k, hk, rfl, M, hM, hj, hob, hbel⟩ := hrel
    clear ho1 hb1
    by_cases hlt : k < n
    · obtain ⟨b, off, p, s, rfl, hlt', hp, c1, c2⟩ := (HR.out.below hbel).pt hlt
      have b1 : (k : Int) < (n : Int) := by omega
      obtain ⟨u1, e1⟩ := hob.some (j := k * 2) (by rw [ptCells_length]; omega)
      obtain ⟨u2, e2⟩ := hob.some (j := k * 2 + 1) (by rw [ptCells_length]; omega)
      have f1 := hob.frozen (k * 2)
      have f2 := hob.frozen (k * 2 + 1)
      have hz : w.heap.size < wr.heap.size := hob.lt
      have hz2 : w.heap.size ≠ wr.heap.size := by omega
      have hz3 : b ≠ wr.heap.size := by omega
      have R := hide (ob_round (k := k) (p := p) (s := s) (o := Obj.cells #[Value.int IntKind.u64 p, Value.int IntKind.u32 s] 37) hob (by omega) hbel (Nat.le_refl _) (by omega))
      have S := hide (pts_step (k := k) (by omega) hp hj)
      have HM := hide hM
      clear hob hbel hM hj hp
      go_wp2
      go_region_with (go_at_call 18; refine (mkPoint _ _ _).mono ?_; rintro e w' ⟨rfl, rfl⟩)
      all_goals
        go_wp2
        go_roundw
        case rel => exact ⟨k + 1, by omega, by go_num, _, by rw [List.length_set]; exact HM.out, S.out, R.out.1, R.out.2⟩
        case measure => simp [intOf]; omega
    · go_wp2
      go_ret
      have hl := HR.out.len
      have e : M = L := pts_ext hM hl (fun j hjn => hj j (by omega))
      subst e
      exact ⟨_, rfl, Nat.le_refl _, hob, hbel⟩

theorem bcell {W w1 : World} (hb : Below W.heap.size W w1) (b o : Nat) (h : b < W.heap.size) : w1.cell? ⟨b, o, none⟩ = W.cell? ⟨b, o, none⟩ := hb.cell (p := ⟨b, o, none⟩) h

theorem undrew {W w1 : World} (hb : Below W.drew.heap.size W.drew w1) : Below W.heap.size W w1 := ⟨hb.os, hb.tape, hb.output, hb.size, hb.block⟩

theorem is_yes (p s : Int) (w : World) : Calls Trym.prog 19 #[.agg #[.int .u64 p, .int .u32 s], .int .u64 p, .int .u32 s] w fun e w' => e = .returned (.bool true) ∧ Below w.heap.size w w' := by
  go_enter Trym.func19, Trym.ntmps19
  go_wp2
  go_ret
  exact ⟨by simp, by go_grown⟩

set_option maxRecDepth 100000 in
set_option maxHeartbeats 2000000 in
theorem sameAs (a1 a2 : Option Addr) (n c1 c2 : Nat) (L : List (Int × Int)) (w : World) (h1 : Row w a1 n 2 (ptCells L)) (h2 : Row w a2 n 2 (ptCells L)) (hn : n ≤ 1048576) :
    Calls Trym.prog 17 #[.slice a1 n c1, .slice a2 n c2] w fun e w' => e = .returned (.bool true) ∧ Below w.heap.size w w' := by
  have H1 := hide h1
  have H2 := hide h2
  clear h1 h2
  go_enter Trym.func17, Trym.ntmps17
  go_wp2
  go_loopw [5] (fun i wr => ∃ k : Nat, k ≤ n ∧ i = .int .i64 k ∧ Below w.heap.size w wr) (fun i _ => n - (intOf i).toNat)
  case atStart => exact ⟨0, Nat.zero_le _, rfl, Below.refl _ _⟩
  case round =>
    obtain ⟨k, hk, rfl, hbel⟩ := hrel
    by_cases hlt : k < n
    · obtain ⟨b, off, p, s, rfl, hlt', hp, c1, c2⟩ := (H1.out.below hbel).pt hlt
      obtain ⟨b', off', p', s', rfl, hlt'', hp', c1', c2'⟩ := (H2.out.below hbel).pt hlt
      rw [hp] at hp'
      cases hp'
      clear hp
      have b1 : (k : Int) < (n : Int) := by omega
      have HB := hide hbel
      clear hbel
      go_wp2
      go_region_held3 (fun w' => b < w'.heap.size ∧ b' < w'.heap.size ∧ w'.cell? ⟨b, off + k * 2, none⟩ = some (.int .u64 p) ∧ w'.cell? ⟨b, off + k * 2 + 1, none⟩ = some (.int .u32 s) ∧ w'.cell? ⟨b', off' + k * 2, none⟩ = some (.int .u64 p) ∧ w'.cell? ⟨b', off' + k * 2 + 1, none⟩ = some (.int .u32 s)) (first | (simp [go_sem, *]; done) | (simp [go_sem, *]; omega)) ((go_at_call 19; refine (is_yes _ _ _).mono ?_; rintro e w' ⟨rfl, hb'⟩; have hcc := bcell (undrew hb'); have hsz := (undrew hb').size))
      go_wp2
      go_roundw
      case rel => exact ⟨k + 1, by omega, by go_num, HB.out.trans ((undrew hb').mono HB.out.size)⟩
      case measure => simp [intOf]; omega
    · go_wp2
      go_ret
      exact ⟨rfl, hbel⟩
end Go.Proofs.Qxb6601991aMods
