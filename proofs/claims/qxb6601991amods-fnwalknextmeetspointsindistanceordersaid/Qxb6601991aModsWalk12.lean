/-
  FnWalkNextMeetsPointsInDistanceOrder: a step of the walk is a step of the order.
-/
import Derived.Test.Qxb6601991aModsWalk8
namespace Go.Proofs.Qxb6601991aMods
open Go.ChangeShapes Go.WideShapes Go.ChangeAt Go.RowKit
set_option linter.unusedVariables false

theorem meet_lap {L : List (Int × Int)} {N : List ByteArray} {Q : List Int} {S : List Nat} {n i k : Nat} (hk : k < n) : meetKey L N Q S n (i * n + k) = lapKey (ptKey L N) n (Q.getD i 0) (S.getD i 0) k := by
  unfold meetKey
  rw [(hd_div hk).1, (hd_div hk).2]
/-- Where a probe's next point is. -/
def headAt (S : List Nat) (n : Nat) (c : Nat → Nat) (i : Nat) : Nat := (S.getD i 0 + c i) % n
theorem lap_head {L : List (Int × Int)} {N : List ByteArray} {Q : List Int} {S : List Nat} {n i : Nat} {q : Nat → Int} {c : Nat → Nat} (hq : q i = Q.getD i 0) : lapKey (ptKey L N) n (Q.getD i 0) (S.getD i 0) (c i) = hdKey L N q (headAt S n c) i := by
  unfold lapKey hdKey wKey ptKey headAt
  rw [hq]
theorem near_min {key : Nat → Int × List UInt8} {k : Nat → Int × List UInt8} {n P r : Nat} {c : Nat → Nat} (hk : ∀ i, i < P → k i = key (i * n + c i)) (hc : ∀ i, i < P → c i < n) (h : Near k P r) : ∀ m, m < P → leS key (r * n + c r) (m * n + c m) = true := by
  obtain ⟨h1, h2, h3⟩ := h
  intro m hm
  by_cases e : m < r
  · have := h3 m e
    rw [hk r h1, hk m hm] at this
    exact leS_of_less key this
  · have := h2 m hm
    rw [hk r h1, hk m hm] at this
    have hle : r * n + c r ≤ m * n + c m := by
      by_cases e2 : m = r
      · subst e2; exact Nat.le_refl _
      · have h4 : (r + 1) * n ≤ m * n := Nat.mul_le_mul_right n (by omega)
        rw [Nat.add_mul] at h4
        have := hc r h1
        omega
    unfold leS
    rw [this]
    simp [hle]
theorem walk_step {L : List (Int × Int)} {N : List ByteArray} {Q : List Int} {S : List Nat} {n P t r : Nat} {c : Nat → Nat} {q : Nat → Int} (ho : InOrd (ptKey L N) n) (hwf : WfPts L) (hL : L.length = n) (hQ : ∀ i, i < P → 0 ≤ Q.getD i 0 ∧ Q.getD i 0 ≤ 18446744073709551615)
    (hS : ∀ i, i < P → StartsAt (ptKey L N) n (Q.getD i 0) (S.getD i 0)) (hq : ∀ i, i < P → q i = Q.getD i 0) (hm : Met (meetKey L N Q S n) n P t c) (hc : ∀ i, i < P → c i < n) (hnr : Near (hdKey L N q (headAt S n c)) P r) :
    (srt (meetKey L N Q S n) 0 (P * n))[t]? = some (r * n + c r) ∧ Met (meetKey L N Q S n) n P (t + 1) (updW c r (c r + 1)) := by
  refine met_step (meetKey L N Q S n) hm hnr.1 (hc r hnr.1) (near_min (fun i hi => ?_) hc hnr) (fun i k k' hi hk hk' => ?_)
  · rw [meet_lap (hc i hi), lap_head (hq i hi)]
  · have h := lap_le ho (fun j hj => by
      have := hwf j (by omega)
      exact ⟨this.1, this.2.1⟩) (hQ i hi) (hS i hi) hk hk'
    rw [← meet_lap hk', ← meet_lap (k := k) (by omega)] at h
    unfold leS
    rw [h]
    simp [hk]
theorem met_open {key : Nat → Int × List UInt8} {n P t : Nat} {c : Nat → Nat} (hm : Met key n P t c) (hn : 0 < n) (hP : 0 < P) (hc : ∀ i, i < P → c i < n) : t < P * n := by
  refine Nat.lt_of_not_le fun h => ?_
  have hlt : n - 1 < P * n := by
    have := Nat.mul_le_mul_right n hP
    omega
  have h1 := (hm (n - 1) hlt).1 (by
    rw [List.take_of_length_le (by rw [srt_len]; omega)]
    exact (srt_mem key).2 ⟨by omega, hlt⟩)
  rw [Nat.mod_eq_of_lt (by omega), Nat.div_eq_of_lt (by omega)] at h1
  have := hc 0 hP
  omega
/-- One step further. -/
theorem heads_step {S : List Nat} {Z : List Nat} {n P r p' x' : Nat} {c pg ix : Nat → Nat} (hn : Z.sum = n) (hl : ∀ i, i < P → Lies Z (headAt S n c i) (pg i) (ix i)) (hr : Lies Z ((headAt S n c r + 1) % Z.sum) p' x') : ∀ i, i < P → Lies Z (headAt S n (updW c r (c r + 1)) i) (updW pg r p' i) (updW ix r x' i) := by
  intro i hi
  unfold updW
  by_cases e : i = r
  · subst e
    rw [if_pos rfl, if_pos rfl]
    have e2 : headAt S n (fun j => if j = i then c i + 1 else c j) i = (headAt S n c i + 1) % Z.sum := by
      unfold headAt
      show (S.getD i 0 + (if i = i then c i + 1 else c i)) % n = _
      rw [if_pos rfl, hn, Nat.mod_add_mod, Nat.add_assoc]
    rw [e2]
    exact hr
  · rw [if_neg e, if_neg e]
    have e2 : headAt S n (fun j => if j = r then c r + 1 else c j) i = headAt S n c i := by
      unfold headAt
      show (S.getD i 0 + (if i = r then c r + 1 else c i)) % n = _
      rw [if_neg e]
    rw [e2]
    exact hl i hi
theorem updW_lt {c : Nat → Nat} {n P r : Nat} (hc : ∀ i, i < P → c i < n) (hr : c r + 1 < n) : ∀ i, i < P → updW c r (c r + 1) i < n := by
  intro i hi
  unfold updW
  split
  · exact hr
  · exact hc i hi
/-- What the law reads behind a step. -/
theorem step_open {L : List (Int × Int)} {S : List Nat} {n P r : Nat} {c : Nat → Nat} {a1 a4 : Option Addr} {w : World} (h1 : Row w a1 n 2 (ptCells L)) (h4 : Row w a4 P 1 (S.flatMap natF)) (hr : r < P) (hc : c r < n) (hn : 0 < n) :
    ∃ (s g e : Nat) (v : Int) (b1 o1 b4 o4 : Nat), e = r * n + c r ∧ g < n ∧ s = S.getD r 0 ∧ S[r]? = some s ∧ (e : Int).tdiv n = r ∧ (e : Int).tmod n = c r ∧ ((s : Int) + c r).tmod n = g ∧ (L.getD (headAt S n c r) (0, 0)).2 = v ∧
      a1 = some ⟨b1, o1, none⟩ ∧ b1 < w.heap.size ∧ w.cell? ⟨b1, o1 + g * 2 + 1, none⟩ = some (.int .u32 v) ∧
      a4 = some ⟨b4, o4, none⟩ ∧ b4 < w.heap.size ∧ w.cell? ⟨b4, o4 + r, none⟩ = some (.int .i64 s) := by
  obtain ⟨b4, o4, s, e4, l4, hs, c4⟩ := h4.nat hr
  have es : s = S.getD r 0 := by rw [List.getD_eq_getElem?_getD, hs]; rfl
  have hg : (s + c r) % n < n := Nat.mod_lt _ hn
  obtain ⟨b1, o1, p, v, e1, l1, hp, c1, c1'⟩ := h1.pt hg
  refine ⟨s, (s + c r) % n, r * n + c r, v, b1, o1, b4, o4, rfl, hg, es, hs, ?_, ?_, ?_, ?_, e1, l1, c1', e4, l4, c4⟩
  · rw [← Int.ofNat_tdiv, (hd_div hc).1]
  · rw [← Int.ofNat_tmod, (hd_div hc).2]
  · rw [show (s : Int) + (c r : Int) = ((s + c r : Nat) : Int) by simp]
    exact (Int.ofNat_tmod (s + c r) n).symm
  · unfold headAt
    rw [← es, hp]
end Go.Proofs.Qxb6601991aMods
