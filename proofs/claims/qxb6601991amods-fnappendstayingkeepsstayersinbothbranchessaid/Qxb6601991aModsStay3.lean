/-
  zzStaying (14).
-/
import Derived.Test.Qxb6601991aModsStay2
namespace Go.Proofs.Qxb6601991aMods
open Go.ChangeShapes Go.WideShapes Go.ChangeAt Go.RowKit
set_option linter.unusedVariables false

/-- The point's server does not leave. -/
def keepB (lv : List Bool) (p : Int × Int) : Bool := !(lv.getD p.2.toNat false)

theorem own_below {w w' : World} {base e sz n : Nat} {v : Value} {xs : List Value} (h : w.ownsRow base e sz v n xs) (hb : Below w.heap.size w w') : w'.ownsRow base e sz v n xs := by
  refine ⟨h.1, ?_⟩
  rcases h.2 with ⟨rfl, rfl⟩ | ⟨g, cap, cur, rfl, hbg, hg, r⟩
  · exact .inl ⟨rfl, rfl⟩
  · exact .inr ⟨g, cap, cur, rfl, hbg, (hb.block g (Array.getElem?_eq_some_iff.1 hg).1).trans hg, r⟩
theorem own_row {w : World} {base e sz n g c : Nat} {xs : List Value} (h : w.ownsRow base e sz (.slice (some ⟨g, 0, none⟩) n c) n xs) : Row w (some ⟨g, 0, none⟩) n sz xs :=
  ⟨h.1, fun _ => ⟨g, 0, rfl, (h.lt g rfl).2, fun j hj => by rw [Nat.zero_add]; exact h.cellAt j hj⟩⟩
theorem one_pt (p s : Int) : ∀ u ∈ [Value.int .u64 p, Value.int .u32 s], u.oneCell' = true := by
  intro u hu
  simp at hu
  rcases hu with rfl | rfl <;> rfl
theorem take_snoc {L : List (Int × Int)} {k : Nat} {pt : Int × Int} (hk : k < L.length) (hp : L.getD k (0, 0) = pt) : L.take (k + 1) = L.take k ++ [pt] := by
  rw [List.take_succ_eq_append_getElem hk, ← hp]
  simp [List.getD_eq_getElem?_getD, List.getElem?_eq_getElem hk]
/-- One point appended within the capacity: what is owned, and what else has turned. -/
theorem own_snoc {w wr w' : World} {base e g k c : Nat} {M : List (Int × Int)} {p s : Int} {o : Obj} (h : w'.ownsRow base e 2 (.slice (some ⟨g, 0, none⟩) (k + 1) c) (k + 1) (ptCells M ++ [.int .u64 p, .int .u32 s]))
    (hg : (wr.alloc o).grownBy w' (some g)) {B : Nat} (hb : Below B w wr) (hz : B ≤ wr.heap.size) (hBg : B ≤ g) :
    w'.ownsRow base e 2 (.slice (some ⟨g, 0, none⟩) (k + 1) c) (k + 1) (ptCells (M ++ [(p, s)])) ∧ Below B w w' :=
  ⟨by rw [ptCells_append]; exact h, (hb.alloc hz o).grown hg (by simp; omega) (fun k hk => by cases hk; exact hBg)⟩

/-- What zzStays answers of the points of L. -/
def Stays (w : World) (L : List (Int × Int)) (lv : Value) (kp : Int × Int → Bool) : Prop :=
  ∀ wx, Below w.heap.size w wx → ∀ k, k < L.length → Calls Trym.prog 48 #[.agg #[.int .u64 (L.getD k (0, 0)).1, .int .u32 (L.getD k (0, 0)).2], lv] wx fun e w' => e = .returned (.bool (kp (L.getD k (0, 0)))) ∧ Below wx.heap.size wx w'
theorem filter_yes {L : List (Int × Int)} {k : Nat} {pt : Int × Int} {kp : Int × Int → Bool} (hk : k < L.length) (hp : L.getD k (0, 0) = pt) (h : kp pt = true) : (L.take (k + 1)).filter kp = (L.take k).filter kp ++ [pt] := by
  rw [take_snoc hk hp, List.filter_append]; simp [h]
theorem filter_no {L : List (Int × Int)} {k : Nat} {pt : Int × Int} {kp : Int × Int → Bool} (hk : k < L.length) (hp : L.getD k (0, 0) = pt) (h : kp pt = false) : (L.take (k + 1)).filter kp = (L.take k).filter kp := by
  rw [take_snoc hk hp, List.filter_append]; simp [h]
theorem filter_le (L : List (Int × Int)) (k : Nat) (kp : Int × Int → Bool) : ((L.take k).filter kp).length ≤ k :=
  Nat.le_trans (List.length_filter_le _ _) (List.length_take_le _ _)

set_option maxRecDepth 100000 in
set_option maxHeartbeats 2000000 in
theorem staying (a1 a2 : Option Addr) (n m c1 c2 : Nat) (L1 L2 : List (Int × Int)) (lv : Value) (kp : Int × Int → Bool) (w : World) (h1 : Row w a1 n 2 (ptCells L1)) (h2 : Row w a2 m 2 (ptCells L2)) (hn : n ≤ 65536) (hm : m ≤ 65536) (hst : Stays w L2 lv kp) :
    Calls Trym.prog 14 #[.slice a1 n c1, .slice a2 m c2, lv] w fun e w' => ∃ g, e = .returned (.slice (some ⟨g, 0, none⟩) (n + (L2.filter kp).length) (n + m)) ∧ w.heap.size ≤ g ∧ Row w' (some ⟨g, 0, none⟩) (n + (L2.filter kp).length) 2 (ptCells (L1 ++ L2.filter kp)) ∧ Below w.heap.size w w' := by
  have HST := hide hst
  clear hst
  obtain ⟨i0, hi, hz0, hz1, hz2⟩ := info_parts info40
  have H1 := hide h1
  have H2 := hide h2
  clear h1 h2
  go_enter Trym.func14, Trym.ntmps14
  go_wp2_with (at_make; refine wpList_make_own _ rfl _ _ 22 rfl w.heap.size 40 i0 (.agg #[.int .u64 0, .int .u32 0]) 2 Trym.underlying22 hi hz0 hz1 .i64 .i64 _ (n + m) rfl rfl (by omega) (by rw [hz2]; omega) (by unfold maxLen; omega) (Nat.le_refl _) ?_; intro w1 o1 g1)
  have hb1 : Below w.heap.size w w1 := grown_below g1 (Nat.le_refl _) (fun _ h => by cases h)
  clear g1
  go_loopw [7, 8] (fun v i wr => ∃ k : Nat, k ≤ n ∧ i = .int .i64 k ∧ v = .slice (some ⟨w.heap.size, 0, none⟩) k (n + m) ∧ wr.ownsRow w.heap.size 40 2 (.slice (some ⟨w.heap.size, 0, none⟩) k (n + m)) k (ptCells (L1.take k)) ∧ Below w.heap.size w wr) (fun _ i _ => n - (intOf i).toNat)
  case atStart => exact ⟨0, Nat.zero_le _, rfl, rfl, by simpa [ptCells] using o1, hb1⟩
  case round =>
    obtain ⟨k, hk, rfl, rfl, hown, hbel⟩ := hrel
    clear o1 hb1
    by_cases hlt : k < n
    · obtain ⟨b, off, p, s, rfl, hlt', hp, c1, c2⟩ := (H1.out.below hbel).pt hlt
      have hl := H1.out.len
      have b1 : (k : Int) < (n : Int) := by omega
      have HT := hide (take_snoc (by omega) hp)
      clear hp hl
      have hz : w.heap.size ≤ wr.heap.size := hbel.size
      have HB := hide hbel
      clear hbel
      go_wp2_with (at_builtin; refine wpList_append_fits _ rfl _ _ 22 rfl w.heap.size 40 i0 2 Trym.underlying22 hi hz1 w.heap.size k (n + m) _ rfl (hown.alloc _) ⟨wr.heap.size, 0, none⟩ 1 1 [.int .u64 p, .int .u32 s] rfl rfl (cells_new wr 40 _) (one_pt p s) (by omega) ?_; intro w2 o2 g2)
      obtain ⟨o3, b3⟩ := own_snoc o2 g2 HB.out hz (Nat.le_refl _)
      rw [← HT.out] at o3
      clear hown o2 g2 HB c1 c2
      go_wp2
      go_roundw
      case rel => exact ⟨k + 1, by omega, by go_num, rfl, o3, b3⟩
      case measure => simp [intOf]; omega
    · have e : k = n := by omega
      subst e
      rw [List.take_of_length_le (by rw [H1.out.len]; exact Nat.le_refl _)] at hown
      go_wp2
      go_loopw [7, 9] (fun v i wr' => ∃ t r : Nat, t ≤ m ∧ i = .int .i64 t ∧ ((L2.take t).filter kp).length = r ∧ v = .slice (some ⟨w.heap.size, 0, none⟩) (k + r) (k + m) ∧ wr'.ownsRow w.heap.size 40 2 (.slice (some ⟨w.heap.size, 0, none⟩) (k + r) (k + m)) (k + r) (ptCells (L1 ++ (L2.take t).filter kp)) ∧ Below w.heap.size w wr') (fun _ i _ => m - (intOf i).toNat)
      case atStart => exact ⟨0, 0, Nat.zero_le _, rfl, by simp, rfl, by simpa using hown, hbel⟩
      case round =>
        obtain ⟨t, r, ht, rfl, hr, rfl, hown', hbel'⟩ := hrel
        clear hown hbel
        have hrt : r ≤ t := by rw [← hr]; exact filter_le L2 t kp
        have HRr := hide hr
        clear hr
        by_cases hlt : t < m
        · obtain ⟨b, off, p, s, rfl, hlt', hp, c1, c2⟩ := (H2.out.below hbel').pt hlt
          have hl := H2.out.len
          have b1 : (t : Int) < (m : Int) := by omega
          have hz : w.heap.size ≤ wr.heap.size := hbel'.size
          have hC := HST.out wr hbel' t (by omega)
          rw [hp] at hC
          have HC := hide hC
          clear hC
          by_cases hkp : kp (p, s) = true
          · have HT := hide (filter_yes (by omega) hp hkp)
            rw [hkp] at HC
            have HB := hide hbel'
            clear hp hl hbel' hkp
            go_wp2_with fail
            refine HC.out.mono ?_
            rintro e w2 ⟨rfl, hb2⟩
            have c1' := (bcell hb2 b (off + t * 2) hlt').trans c1
            have c2' := (bcell hb2 b (off + t * 2 + 1) hlt').trans c2
            have hown2 := own_below hown' hb2
            have hb3 : Below w.heap.size w w2 := HB.out.trans (hb2.mono HB.out.size)
            have hz2 : w.heap.size ≤ w2.heap.size := hb3.size
            have HB3 := hide hb3
            clear c1 c2 hown' hb2 hb3 HB HC hlt' hz
            go_wp2_with (at_builtin; refine wpList_append_fits _ rfl _ _ 22 rfl w.heap.size 40 i0 2 Trym.underlying22 hi hz1 w.heap.size (k + r) (k + m) _ rfl (hown2.alloc _) ⟨w2.heap.size, 0, none⟩ 1 1 [.int .u64 p, .int .u32 s] rfl rfl (cells_new w2 40 _) (one_pt p s) (by omega) ?_; intro w3 o3 g3)
            obtain ⟨o4, b4⟩ := own_snoc o3 g3 HB3.out hz2 (Nat.le_refl _)
            rw [List.append_assoc, ← HT.out] at o4
            clear hown2 o3 g3 HB3 c1' c2'
            go_wp2
            go_roundw
            case rel => exact ⟨t + 1, r + 1, by omega, by go_num, by rw [HT.out, List.length_append, HRr.out]; rfl, rfl, o4, b4⟩
            case measure => simp [intOf]; omega
          · have hkp' : kp (p, s) = false := by simpa using hkp
            have HT := hide (filter_no (by omega) hp hkp')
            rw [hkp'] at HC
            have HB := hide hbel'
            clear hp hl hbel' hkp hkp'
            go_wp2_with fail
            refine HC.out.mono ?_
            rintro e w2 ⟨rfl, hb2⟩
            have hown2 := own_below hown' hb2
            have hb3 : Below w.heap.size w w2 := HB.out.trans (hb2.mono HB.out.size)
            clear c1 c2 hown' hb2 HB HC hlt' hz
            go_wp2
            go_roundw
            case rel => exact ⟨t + 1, r, by omega, by go_num, by rw [HT.out, HRr.out], rfl, by rw [HT.out]; exact hown2, hb3⟩
            case measure => simp [intOf]; omega
        · have e : t = m := by omega
          subst e
          have hl := H2.out.len
          rw [List.take_of_length_le (by omega)] at hown' HRr
          have hrow := own_row hown'
          have HE := HRr.out
          subst HE
          clear hown'
          go_wp2
          go_ret
          exact ⟨_, rfl, Nat.le_refl _, hrow, hbel'⟩
end Go.Proofs.Qxb6601991aMods
