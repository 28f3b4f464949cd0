/-
  FnWalkNextMeetsPointsInDistanceOrder: the plain law: a step of the walk, a probe's lap, the pages.
-/
import Derived.Test.Qxb6601991aModsWalk0
namespace Go.Proofs.Qxb6601991aMods
set_option linter.unusedVariables false

/-! ### A step of the walk -/
theorem take_snoc1 {α : Type} {L : List α} {k : Nat} {x : α} (hx : L[k]? = some x) : L.take (k + 1) = L.take k ++ [x] := by
  have hk := (List.getElem?_eq_some_iff.1 hx).1
  rw [List.take_succ_eq_append_getElem hk, (List.getElem?_eq_some_iff.1 hx).2]
section
variable (key : Nat → Int × List UInt8)
/-- Of the first t of the order: of probe i the first c i. -/
def Met (n P t : Nat) (c : Nat → Nat) : Prop := ∀ x, x < P * n → (x ∈ (srt key 0 (P * n)).take t ↔ x % n < c (x / n))
theorem met_zero (n P : Nat) : Met key n P 0 (fun _ => 0) := fun x _ => by simp
theorem hd_div {n r k : Nat} (hk : k < n) : (r * n + k) / n = r ∧ (r * n + k) % n = k := by
  have hn : 0 < n := by omega
  rw [Nat.mul_comm]
  exact ⟨by rw [Nat.mul_add_div hn, Nat.div_eq_of_lt hk]; omega, by rw [Nat.mul_add_mod, Nat.mod_eq_of_lt hk]⟩
theorem hd_lt {n r k P : Nat} (hk : k < n) (hr : r < P) : r * n + k < P * n := by
  have : (r + 1) * n ≤ P * n := Nat.mul_le_mul_right n hr
  rw [Nat.add_mul] at this
  omega
theorem met_step {n P t r : Nat} {c : Nat → Nat} (h : Met key n P t c) (hr : r < P) (hc : c r < n) (hmin : ∀ m, m < P → leS key (r * n + c r) (m * n + c m) = true)
    (lap : ∀ i k k', i < P → k ≤ k' → k' < n → leS key (i * n + k) (i * n + k') = true) :
    (srt key 0 (P * n))[t]? = some (r * n + c r) ∧ Met key n P (t + 1) (fun i => if i = r then c r + 1 else c i) := by
  have hn : 0 < n := by omega
  have he := hd_lt hc hr
  obtain ⟨e1, e2⟩ := hd_div (r := r) hc
  have ht : (srt key 0 (P * n))[t]? = some (r * n + c r) := by
    refine srt_at key he ?_ ?_
    · rw [h _ he, e1, e2]; omega
    · intro x hx hnx
      rw [h x hx] at hnx
      have hxn : x % n < n := Nat.mod_lt _ hn
      have hxP : x / n < P := Nat.div_lt_of_lt_mul (by rw [Nat.mul_comm]; exact hx)
      refine leS_trans key _ _ _ (hmin (x / n) hxP) ?_
      have := lap (x / n) (c (x / n)) (x % n) hxP (by omega) hxn
      rwa [show x / n * n + x % n = x by rw [Nat.mul_comm]; exact Nat.div_add_mod x n] at this
  refine ⟨ht, fun x hx => ?_⟩
  have htl := (List.getElem?_eq_some_iff.1 ht).1
  have hxn : x % n < n := Nat.mod_lt _ hn
  rw [take_snoc1 ht, List.mem_append, h x hx, List.mem_singleton]
  by_cases hq : x / n = r
  · simp only [if_pos hq]
    rw [hq]
    constructor
    · rintro (h1 | h1)
      · omega
      · subst h1; rw [e2]; omega
    · intro h1
      by_cases h2 : x % n < c r
      · exact .inl h2
      · right
        have h3 := Nat.div_add_mod x n
        rw [hq, Nat.mul_comm] at h3
        omega
  · simp only [if_neg hq]
    constructor
    · rintro (h1 | h1)
      · exact h1
      · subst h1; exact absurd e1 hq
    · exact .inl
end

/-! ### A probe's lap -/
theorem leK_trans {a b c : Int × List UInt8} (h1 : lessK b a = false) (h2 : lessK c b = false) : lessK c a = false := by
  cases h : lessK c a with
  | false => rfl
  | true =>
    cases h3 : lessK a b with
    | true => rw [lessK_trans h h3] at h2; cases h2
    | false => rw [lessK_tri h1 h3] at h2; rw [h] at h2; cases h2
/-- Points in their order. -/
def InOrd (f : Nat → Int × List UInt8) (n : Nat) : Prop := ∀ i, i + 1 < n → lessK (f (i + 1)) (f i) = false
theorem ord_le {f : Nat → Int × List UInt8} {n : Nat} (h : InOrd f n) : ∀ (d a : Nat), a + d < n → lessK (f (a + d)) (f a) = false
  | 0, a, _ => lessK_irr _
  | d + 1, a, hd => leK_trans (ord_le h d a (by omega)) (h (a + d) (by omega))
theorem ord_pos {f : Nat → Int × List UInt8} {n : Nat} (h : InOrd f n) {a b : Nat} (hab : a ≤ b) (hb : b < n) : (f a).1 ≤ (f b).1 := by
  have := ord_le h (b - a) a (by omega)
  rw [show a + (b - a) = b by omega] at this
  unfold lessK at this
  split at this
  · omega
  · simp at this; omega
/-- How far a point lies above a probe. -/
def dist (q p : Int) : Int := (p - q) % 18446744073709551616
theorem dist_up {q p : Int} (h0 : 0 ≤ q) (h1 : q ≤ p) (h2 : p ≤ 18446744073709551615) : dist q p = p - q := by
  unfold dist; rw [Int.emod_eq_of_lt (by omega) (by omega)]
theorem dist_dn {q p : Int} (h0 : q ≤ 18446744073709551615) (h1 : p < q) (h2 : 0 ≤ p) : dist q p = p - q + 18446744073709551616 := by
  unfold dist
  rw [← Int.add_emod_right, Int.emod_eq_of_lt (by omega) (by omega)]
theorem less_shift {a b : Int × List UInt8} {d : Int} : lessK (a.1 + d, a.2) (b.1 + d, b.2) = lessK a b := by
  unfold lessK
  by_cases h : a.1 = b.1
  · rw [if_pos h, if_pos (by simp [h])]
  · rw [if_neg h, if_neg (by simp; omega)]; simp
/-- Where a probe starts: at the first point at or above it, or at the lowest. -/
def StartsAt (f : Nat → Int × List UInt8) (n : Nat) (q : Int) (s : Nat) : Prop := s < n ∧ (∀ j, j < s → (f j).1 < q) ∧ (q ≤ (f s).1 ∨ (s = 0 ∧ ∀ j, j < n → (f j).1 < q))
def lapKey (f : Nat → Int × List UInt8) (n : Nat) (q : Int) (s k : Nat) : Int × List UInt8 := (dist q (f ((s + k) % n)).1, (f ((s + k) % n)).2)
theorem lap_le {f : Nat → Int × List UInt8} {n s : Nat} {q : Int} (ho : InOrd f n) (hf : ∀ j, j < n → 0 ≤ (f j).1 ∧ (f j).1 ≤ 18446744073709551615) (hq : 0 ≤ q ∧ q ≤ 18446744073709551615) (hs : StartsAt f n q s) {k k' : Nat} (hk : k ≤ k') (hk' : k' < n) :
    lessK (lapKey f n q s k') (lapKey f n q s k) = false := by
  obtain ⟨hsn, hlow, hup⟩ := hs
  have up : ∀ {a b : Nat}, a ≤ b → b < n → q ≤ (f a).1 → lessK (dist q (f b).1, (f b).2) (dist q (f a).1, (f a).2) = false := by
    intro a b hab hb hqa
    have h1 := ord_pos ho hab hb
    rw [dist_up hq.1 hqa (hf a (by omega)).2, dist_up hq.1 (by omega) (hf b hb).2, Int.sub_eq_add_neg, Int.sub_eq_add_neg, less_shift]
    have := ord_le ho (b - a) a (by omega)
    rwa [show a + (b - a) = b by omega] at this
  have dn : ∀ {a b : Nat}, a ≤ b → b < n → (f b).1 < q → lessK (dist q (f b).1, (f b).2) (dist q (f a).1, (f a).2) = false := by
    intro a b hab hb hqb
    have h1 := ord_pos ho hab hb
    rw [dist_dn hq.2 hqb (hf b hb).1, dist_dn hq.2 (by omega) (hf a (by omega)).1, Int.sub_eq_add_neg, Int.sub_eq_add_neg, Int.add_assoc, Int.add_assoc, less_shift]
    have := ord_le ho (b - a) a (by omega)
    rwa [show a + (b - a) = b by omega] at this
  unfold lapKey
  by_cases h1 : s + k' < n
  · rw [Nat.mod_eq_of_lt h1, Nat.mod_eq_of_lt (show s + k < n by omega)]
    rcases hup with hup | ⟨h0, hall⟩
    · exact up (by omega) h1 (by have := ord_pos ho (show s ≤ s + k by omega) (by omega); omega)
    · exact dn (by omega) h1 (hall _ h1)
  · have e' : (s + k') % n = s + k' - n := by rw [Nat.mod_eq_sub_mod (by omega), Nat.mod_eq_of_lt (by omega)]
    rw [e']
    by_cases h2 : s + k < n
    · rw [Nat.mod_eq_of_lt h2]
      have hup' : q ≤ (f s).1 := by
        rcases hup with hup | ⟨h0, _⟩
        · exact hup
        · omega
      have h3 := ord_pos ho (show s ≤ s + k by omega) h2
      have h4 := hlow (s + k' - n) (by omega)
      have h5 := hf (s + k' - n) (by omega)
      have h6 := hf (s + k) h2
      rw [dist_up hq.1 (by omega) h6.2, dist_dn hq.2 h4 h5.1]
      unfold lessK
      rw [if_neg (by simp only; omega)]
      simp only [decide_eq_false_iff_not]
      omega
    · have e : (s + k) % n = s + k - n := by rw [Nat.mod_eq_sub_mod (by omega), Nat.mod_eq_of_lt (by omega)]
      rw [e]
      exact dn (by omega) (by omega) (hlow _ (by omega))

/-! ### The pages -/
/-- How many points lie on the first p pages. -/
def offOf (Z : List Nat) (p : Nat) : Nat := (Z.take p).sum
theorem off_zero (Z : List Nat) : offOf Z 0 = 0 := by simp [offOf]
theorem off_succ {Z : List Nat} {p z : Nat} (h : Z[p]? = some z) : offOf Z (p + 1) = offOf Z p + z := by
  unfold offOf; rw [take_snoc1 h, List.sum_append]; simp
theorem off_all {Z : List Nat} {p : Nat} (h : Z.length ≤ p) : offOf Z p = Z.sum := by unfold offOf; rw [List.take_of_length_le h]
theorem off_mono (Z : List Nat) : ∀ (d p : Nat), offOf Z p ≤ offOf Z (p + d)
  | 0, p => Nat.le_refl _
  | d + 1, p => by
    refine Nat.le_trans (off_mono Z d p) ?_
    cases h : Z[p + d]? with
    | some z => rw [show p + (d + 1) = p + d + 1 by omega, off_succ h]; omega
    | none =>
      have := List.getElem?_eq_none_iff.1 h
      rw [off_all this, off_all (by omega)]; exact Nat.le_refl _
theorem off_le (Z : List Nat) (p : Nat) : offOf Z p ≤ Z.sum := by
  have := off_mono Z Z.length p
  rwa [off_all (p := p + Z.length) (by omega)] at this
/-- Point g lies on page p, at x. -/
def Lies (Z : List Nat) (g p x : Nat) : Prop := ∃ z, Z[p]? = some z ∧ x < z ∧ offOf Z p + x = g
theorem Lies.lt {Z : List Nat} {g p x : Nat} (h : Lies Z g p x) : g < Z.sum := by
  obtain ⟨z, h1, h2, h3⟩ := h
  have := off_le Z (p + 1)
  rw [off_succ h1] at this
  omega
end Go.Proofs.Qxb6601991aMods
