/-
  zzMeetOrder (44): the merge's invariant.
-/
import Derived.Test.Qxb6601991aModsWalk3
namespace Go.Proofs.Qxb6601991aMods
open Go.ChangeShapes Go.WideShapes Go.ChangeAt Go.RowKit
set_option linter.unusedVariables false

theorem info3 : (Trym.prog.info? 3).map (fun i => (i.zero, i.size, i.bytes)) = some (some (.int .i64 0), 1, 8) := by kernel_rfl
theorem nat_flat : ∀ L : List Nat, L.flatMap natF = L.map (fun x : Nat => Value.int .i64 (x : Int))
  | [] => rfl
  | x :: r => by simp only [List.flatMap_cons, List.map_cons, nat_flat r, natF]; rfl
theorem nat_set (M : List Nat) (k x : Nat) : (M.set k x).flatMap natF = (M.flatMap natF).set k (.int .i64 x) := by
  rw [nat_flat, nat_flat, List.map_set]
theorem nat_len (M : List Nat) : (M.flatMap natF).length = M.length := by rw [nat_flat, List.length_map]
theorem made_nats (n : Nat) : (madeCells #[Value.int .i64 0] n).toList = (List.replicate n 0).flatMap natF := by
  rw [toList_madeCells_one, nat_flat]; simp
theorem ob_nat {w : World} {g k x : Nat} {A : List Nat} (h : OB w g 3 (A.flatMap natF)) (hx : A[k]? = some x) : w.cell? ⟨g, k, none⟩ = some (.int .i64 x) := by
  rw [h.cell, nat_flat, List.getElem?_map, hx]; rfl

theorem mnil (l : List Nat) (le : Nat → Nat → Bool) : l.merge [] le = l := by simp
theorem nilm (l : List Nat) (le : Nat → Nat → Bool) : ([] : List Nat).merge l le = l := by simp
section
variable (key : Nat → Int × List UInt8)
/-- A's cells lo .. hi-1 hold those numbers in their order. -/
def Seg (A : List Nat) (lo hi : Nat) : Prop := ∀ k, lo ≤ k → k < hi → A[k]? = (srt key lo hi)[k - lo]?
/-- A merge on its road. -/
def MI (w wr : World) (A B0 : List Nat) (ga gb T lo mid hi i j o : Nat) (B : List Nat) : Prop :=
  (lo ≤ i ∧ i ≤ mid ∧ mid ≤ j ∧ j ≤ hi ∧ o + mid = i + j) ∧ B.length = T ∧ OB wr ga 3 (A.flatMap natF) ∧ OB wr gb 3 (B.flatMap natF) ∧ (∀ k, k < lo → B[k]? = B0[k]?) ∧ (∀ k, lo ≤ k → k < o → B[k]? = (srt key lo hi)[k - lo]?) ∧
  (srt key lo hi).drop (o - lo) = ((srt key lo mid).drop (i - lo)).merge ((srt key mid hi).drop (j - mid)) (leS key) ∧ Below w.heap.size w wr
theorem MI.start {w wr : World} {A B : List Nat} {ga gb T lo mid hi : Nat} (h1 : lo ≤ mid) (h2 : mid ≤ hi) (hB : B.length = T) (ha : OB wr ga 3 (A.flatMap natF)) (hb : OB wr gb 3 (B.flatMap natF)) (hw : Below w.heap.size w wr) : MI key w wr A B ga gb T lo mid hi lo mid lo B :=
  ⟨⟨Nat.le_refl _, h1, Nat.le_refl _, h2, by omega⟩, hB, ha, hb, fun _ _ => rfl, fun k h1 h2 => by omega, by simp only [Nat.sub_self, List.drop_zero]; exact (srt_merge key h1 h2).symm, hw⟩
theorem MI.put {w wr wr1 : World} {A B0 B : List Nat} {ga gb T lo mid hi i j o i' j' x : Nat} (h : MI key w wr A B0 ga gb T lo mid hi i j o B) (hne : ga ≠ gb) (hg : w.heap.size ≤ gb) (hi' : i ≤ i' ∧ i' ≤ mid) (hj' : j ≤ j' ∧ j' ≤ hi) (hij : i' + j' = i + j + 1) (hT : hi ≤ T)
    (hz : ((srt key lo mid).drop (i - lo)).merge ((srt key mid hi).drop (j - mid)) (leS key) = x :: ((srt key lo mid).drop (i' - lo)).merge ((srt key mid hi).drop (j' - mid)) (leS key)) (hb1 : Below wr.heap.size wr wr1) :
    MI key w (wr1.setCell ⟨gb, o, none⟩ (.int .i64 x)) A B0 ga gb T lo mid hi i' j' (o + 1) (B.set o x) := by
  obtain ⟨⟨p1, p2, p3, p4, p5⟩, hB, ha, hb, hlo, hmid, hdr, hw⟩ := h
  have hoT : o < T := by omega
  have hol : lo ≤ o := by omega
  rw [hz] at hdr
  have hat : (srt key lo hi)[o - lo]? = some x := by
    have := congrArg (fun l => l[0]?) hdr
    simpa using this
  refine ⟨⟨by omega, by omega, by omega, by omega, by omega⟩, by rw [List.length_set]; exact hB, ?_, ?_, ?_, ?_, ?_, ?_⟩
  · exact (ha.below ha.lt hb1).other hne _
  · rw [nat_set]; exact (hb.below hb.lt hb1).set o _
  · intro k hk; rw [List.getElem?_set_ne (by omega)]; exact hlo k hk
  · intro k h1 h2
    by_cases e : k = o
    · subst e; rw [List.getElem?_set_self (by omega), hat]
    · rw [List.getElem?_set_ne (by omega)]; exact hmid k h1 (by omega)
  · have := congrArg (fun l => l.drop 1) hdr
    simp only [List.drop_drop, List.drop_succ_cons, List.drop_zero] at this
    rw [show o + 1 - lo = o - lo + 1 by omega]
    exact this
  · exact (hw.trans (hb1.mono hw.size)).setCell hg _
theorem merge_left {lo mid hi i : Nat} {x : Nat} (h1 : lo ≤ i) (h2 : mid ≤ hi) (hx : (srt key lo mid)[i - lo]? = some x) :
    ((srt key lo mid).drop (i - lo)).merge ((srt key mid hi).drop (hi - mid)) (leS key) = x :: ((srt key lo mid).drop (i + 1 - lo)).merge ((srt key mid hi).drop (hi - mid)) (leS key) := by
  have hxl := (List.getElem?_eq_some_iff.1 hx).1
  rw [List.drop_of_length_le (l := srt key mid hi) (by rw [srt_len]; exact Nat.le_refl _), mnil, mnil, show i + 1 - lo = i - lo + 1 by omega, List.drop_eq_getElem_cons hxl, (List.getElem?_eq_some_iff.1 hx).2]
theorem merge_right {lo mid hi j : Nat} {y : Nat} (h1 : lo ≤ mid) (h2 : mid ≤ j) (hy : (srt key mid hi)[j - mid]? = some y) :
    ((srt key lo mid).drop (mid - lo)).merge ((srt key mid hi).drop (j - mid)) (leS key) = y :: ((srt key lo mid).drop (mid - lo)).merge ((srt key mid hi).drop (j + 1 - mid)) (leS key) := by
  have hyl := (List.getElem?_eq_some_iff.1 hy).1
  rw [List.drop_of_length_le (l := srt key lo mid) (by rw [srt_len]; exact Nat.le_refl _), nilm, nilm, show j + 1 - mid = j - mid + 1 by omega, List.drop_eq_getElem_cons hyl, (List.getElem?_eq_some_iff.1 hy).2]
/-- What A holds at k of a segment. -/
theorem Seg.get {A : List Nat} {lo hi k : Nat} (h : Seg key A lo hi) (h1 : lo ≤ k) (h2 : k < hi) : ∃ x, A[k]? = some x ∧ (srt key lo hi)[k - lo]? = some x ∧ lo ≤ x ∧ x < hi := by
  have hl : k - lo < (srt key lo hi).length := by rw [srt_len]; omega
  refine ⟨(srt key lo hi)[k - lo], ?_, List.getElem?_eq_getElem hl, ?_⟩
  · rw [h k h1 h2, List.getElem?_eq_getElem hl]
  · exact (srt_mem key).1 (List.getElem_mem hl)

/-- The blocks of width wd below number c are in order. -/
def Blks (A : List Nat) (wd T c : Nat) : Prop := ∀ d, d < c → d * wd < T → Seg key A (d * wd) (min (d * wd + wd) T)
theorem blks_one (T c : Nat) : Blks key (List.range T) 1 T c := by
  intro d _ hd k h1 h2
  have e1 : d * 1 = d := Nat.mul_one d
  rw [e1] at hd h1 h2 ⊢
  rw [Nat.min_eq_left (by omega)] at h2 ⊢
  have e : k = d := by omega
  subst e
  rw [srt_one, List.getElem?_range (by omega)]
  simp
/-- The two halves of block c of twice the width. -/
theorem blks_halves {A : List Nat} {wd T c : Nat} (hw : 0 < wd) (h : ∀ c, Blks key A wd T c) (hc : c * (2 * wd) < T) :
    Seg key A (c * (2 * wd)) (min (c * (2 * wd) + wd) T) ∧ Seg key A (min (c * (2 * wd) + wd) T) (min (c * (2 * wd) + 2 * wd) T) := by
  have e0 : 2 * c * wd = c * (2 * wd) := by rw [Nat.mul_comm 2 c, Nat.mul_assoc]
  have e1 : (2 * c + 1) * wd = c * (2 * wd) + wd := by rw [Nat.add_mul, Nat.one_mul, e0]
  constructor
  · have := h (2 * c + 1) (2 * c) (by omega) (by rw [e0]; exact hc)
    rwa [e0] at this
  · by_cases hm : c * (2 * wd) + wd < T
    · have := h (2 * c + 2) (2 * c + 1) (by omega) (by rw [e1]; exact hm)
      rw [e1] at this
      rw [Nat.min_eq_left (Nat.le_of_lt hm)]
      rwa [show c * (2 * wd) + wd + wd = c * (2 * wd) + 2 * wd by omega] at this
    · rw [Nat.min_eq_right (by omega), Nat.min_eq_right (by omega)]
      intro k h1 h2
      omega
theorem blks_next {B0 B : List Nat} {wd T c : Nat} (h : Blks key B0 wd T c) (hlo : ∀ k, k < c * wd → B[k]? = B0[k]?) (hs : Seg key B (c * wd) (min (c * wd + wd) T)) : Blks key B wd T (c + 1) := by
  intro d hd hdT
  by_cases e : d = c
  · subst e; exact hs
  · intro k h1 h2
    have hle : (d + 1) * wd ≤ c * wd := Nat.mul_le_mul_right wd (by omega)
    rw [Nat.add_mul, Nat.one_mul] at hle
    rw [hlo k (by omega)]
    exact h d (by omega) hdT k h1 h2
theorem blks_all {B : List Nat} {wd T c : Nat} (hw : 0 < wd) (h : Blks key B wd T c) (hc : T ≤ c * wd) : ∀ c, Blks key B wd T c := by
  intro c' d _ hd
  refine h d ?_ hd
  refine Nat.lt_of_not_le fun hle => ?_
  have := Nat.mul_le_mul_right wd hle
  omega
theorem blks_end {A : List Nat} {wd T : Nat} (h : ∀ c, Blks key A wd T c) (hT : T ≤ wd) (hl : A.length = T) : A = srt key 0 T := by
  by_cases h0 : T = 0
  · subst h0
    rw [List.length_eq_zero_iff.1 hl, List.length_eq_zero_iff.1 (by rw [srt_len] : (srt key 0 0).length = 0)]
  · apply List.ext_getElem?
    intro k
    by_cases hk : k < T
    · have := h 1 0 (by omega) (by omega) k (by omega) (by omega)
      simp only [Nat.zero_mul, Nat.zero_add] at this
      rw [Nat.min_eq_right hT] at this
      simpa using this
    · rw [List.getElem?_eq_none (by omega), List.getElem?_eq_none (by rw [srt_len]; omega)]
theorem MI.done {w wr : World} {A B0 B : List Nat} {ga gb T lo mid hi i j o : Nat} (h : MI key w wr A B0 ga gb T lo mid hi i j o B) (hi' : i = mid) (hj : j = hi) : Seg key B lo hi := by
  obtain ⟨⟨p1, p2, p3, p4, p5⟩, _, _, _, _, hm, _, _⟩ := h
  intro k h1 h2
  exact hm k h1 (by omega)
end
end Go.Proofs.Qxb6601991aMods
