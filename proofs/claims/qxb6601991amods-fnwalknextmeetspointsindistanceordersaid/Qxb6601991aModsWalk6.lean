/-
  The walk's parts: zzLocate (55), at (61), after (64), next (63).
-/
import Derived.Test.Qxb6601991aModsWalk3
namespace Go.Proofs.Qxb6601991aMods
open Go.ChangeShapes Go.WideShapes Go.ChangeAt Go.RowKit
set_option linter.unusedVariables false

theorem natZ_len {w : World} {a : Option Addr} {n : Nat} {Z : List Nat} (h : Row w a n 1 (Z.flatMap natF)) : Z.length = n := h.llen (fun _ => rfl) (by omega)

set_option maxHeartbeats 1000000 in
theorem locate_any (a : Option Addr) (n c g : Nat) (Z : List Nat) (w : World) (hr : Row w a n 1 (Z.flatMap natF)) (hn : n ≤ 1048576) (hs : Z.sum ≤ 1048576) (hg : g < Z.sum) :
    Calls Trym.prog 55 #[.slice a n c, .int .i64 g] w fun e w' => ∃ p x : Nat, e = .returned (.tuple #[.int .i64 p, .int .i64 x]) ∧ Lies Z g p x ∧ w' = w := by
  have HR := hide hr
  have HL := hide (natZ_len hr)
  clear hr
  go_enter Trym.func55, Trym.ntmps55
  go_wp2
  go_loop [6, 7] (fun v i => ∃ k o : Nat, k ≤ n ∧ i = .int .i64 k ∧ v = .int .i64 o ∧ o = offOf Z k ∧ o ≤ g) (fun _ i => n - (intOf i).toNat)
  case atStart => exact ⟨0, 0, Nat.zero_le _, rfl, rfl, (off_zero Z).symm, Nat.zero_le _⟩
  case round =>
    obtain ⟨k, o, hk, rfl, rfl, ho, hog⟩ := hrel
    have HO := hide ho
    clear ho
    by_cases hlt : k < n
    · obtain ⟨b, off, z, rfl, hb, hz, c1⟩ := HR.out.nat hlt
      have b1 : (k : Int) < (n : Int) := by omega
      have HZ := hide hz
      have hoz : o + z ≤ 1048576 := by
        have h1 := off_le Z (k + 1)
        rw [off_succ hz, ← HO.out] at h1
        omega
      clear hz
      by_cases h1 : g < o + z
      · have h2 : (g : Int) < (o : Int) + z := by omega
        go_wp2
        go_returns
        refine ⟨k, g - o, by simp; omega, ⟨z, HZ.out, by omega, by rw [← HO.out]; omega⟩, rfl⟩
      · have h2 : ¬ (g : Int) < (o : Int) + z := by omega
        go_wp2
        refine ⟨⟨k + 1, o + z, by omega, by go_num, by go_num, by rw [off_succ HZ.out, HO.out], by omega⟩, by simp [intOf]; omega⟩
    · exfalso
      have h1 := off_all (Z := Z) (p := k) (by rw [HL.out]; omega)
      have h2 := HO.out
      omega

/-! ### The pages in memory -/
structure Pages (w : World) (gp gs : Nat) (Z : List Nat) (L : List (Int × Int)) : Prop where
  c0 : w.cell? ⟨gp, 0, none⟩ = some (.slice (some ⟨gs, 0, none⟩) Z.length Z.length)
  c2 : w.cell? ⟨gp, 2, none⟩ = some (.int .i64 Z.sum)
  ltp : gp < w.heap.size
  lts : gs < w.heap.size
  len : Z.length ≤ 1048576
  sum : Z.sum ≤ 1048576
  pg : ∀ (p z : Nat), Z[p]? = some z → ∃ a, w.cell? ⟨gs, p * 2 + 1, none⟩ = some (.slice a z z) ∧ Row w a z 2 (ptCells ((L.drop (offOf Z p)).take z))
theorem Pages.below {w w' : World} {gp gs : Nat} {Z : List Nat} {L : List (Int × Int)} (h : Pages w gp gs Z L) (hb : Below w.heap.size w w') : Pages w' gp gs Z L :=
  ⟨(bcell1 hb _ _ h.ltp).trans h.c0, (bcell1 hb _ _ h.ltp).trans h.c2, Nat.lt_of_lt_of_le h.ltp hb.size, Nat.lt_of_lt_of_le h.lts hb.size, h.len, h.sum, fun p z hz => by
    obtain ⟨a, h1, h2⟩ := h.pg p z hz
    exact ⟨a, (bcell1 hb _ _ h.lts).trans h1, h2.below hb⟩⟩
theorem Pages.at {w : World} {gp gs : Nat} {Z : List Nat} {L : List (Int × Int)} (h : Pages w gp gs Z L) {g p x : Nat} (hl : Lies Z g p x) :
    ∃ (z b off : Nat), Z[p]? = some z ∧ x < z ∧ z ≤ 1048576 ∧ p < Z.length ∧ b < w.heap.size ∧ w.cell? ⟨gs, p * 2 + 1, none⟩ = some (.slice (some ⟨b, off, none⟩) z z) ∧
      w.cell? ⟨b, off + x * 2, none⟩ = some (.int .u64 (L.getD g (0, 0)).1) ∧ w.cell? ⟨b, off + x * 2 + 1, none⟩ = some (.int .u32 (L.getD g (0, 0)).2) := by
  obtain ⟨z, hz, hx, hg⟩ := hl
  obtain ⟨a, h1, h2⟩ := h.pg p z hz
  obtain ⟨b, off, q, s, rfl, hb, hp, c1, c2⟩ := h2.pt hx
  have e : L.getD g (0, 0) = (q, s) := by
    rw [← hp, List.getD_eq_getElem?_getD, List.getD_eq_getElem?_getD, List.getElem?_take, if_pos hx, List.getElem?_drop, hg]
  have hzs : z ≤ 1048576 := by
    have h3 := off_le Z (p + 1)
    rw [off_succ hz] at h3
    have := h.sum
    omega
  exact ⟨z, b, off, hz, hx, hzs, (List.getElem?_eq_some_iff.1 hz).1, hb, h1, by rw [e]; exact c1, by rw [e]; exact c2⟩

set_option maxHeartbeats 1000000 in
theorem at_any (gp gs g p x : Nat) (Z : List Nat) (L : List (Int × Int)) (w : World) (h : Pages w gp gs Z L) (hl : Lies Z g p x) :
    Calls Trym.prog 61 #[.pointer (some ⟨gp, 0, none⟩), .int .i64 p, .int .i64 x] w fun e w' => e = .returned (.agg #[.int .u64 (L.getD g (0, 0)).1, .int .u32 (L.getD g (0, 0)).2]) ∧ w' = w.alloc (.cells #[.int .u64 (L.getD g (0, 0)).1, .int .u32 (L.getD g (0, 0)).2] 37) := by
  obtain ⟨z, b, off, hz, hx, hzs, hp, hb, k1, k2, k3⟩ := h.at hl
  have c0 := h.c0
  have hps := h.len
  have l1 := h.ltp
  have l2 := h.lts
  have n1 : gp ≠ w.heap.size := Nat.ne_of_lt h.ltp
  have n2 : gs ≠ w.heap.size := Nat.ne_of_lt h.lts
  have n3 : b ≠ w.heap.size := Nat.ne_of_lt hb
  have t1 : (p : Int) < (Z.length : Int) := by omega
  have t2 : (x : Int) < (z : Int) := by omega
  clear hl h hz
  generalize (L.getD g (0, 0)).1 = q at *
  generalize (L.getD g (0, 0)).2 = s at *
  generalize Z.length = k at *
  go_enter Trym.func61, Trym.ntmps61
  go_wp2
  go_returns
  exact ⟨rfl, rfl⟩

theorem lies_next {Z : List Nat} {g p x : Nat} (hl : Lies Z g p x) {z : Nat} (hz : Z[p]? = some z) (hx : x + 1 < z) : Lies Z ((g + 1) % Z.sum) p (x + 1) := by
  obtain ⟨z', hz', _, hg⟩ := hl
  rw [hz] at hz'
  cases hz'
  have h : Lies Z (g + 1) p (x + 1) := ⟨z, hz, hx, by omega⟩
  rw [Nat.mod_eq_of_lt h.lt]
  exact h
/-- Behind page p: the next point is g. -/
def Past (Z : List Nat) (g p : Nat) : Prop := p < Z.length ∧ (offOf Z (p + 1) = g + 1 ∨ (g + 1 = Z.sum ∧ offOf Z (p + 1) = 0))
theorem Lies.past {Z : List Nat} {g p x : Nat} (hl : Lies Z g p x) {z : Nat} (hz : Z[p]? = some z) (hx : ¬ x + 1 < z) : Past Z g p := by
  obtain ⟨z', hz', h1, hg⟩ := hl
  rw [hz] at hz'
  cases hz'
  exact ⟨(List.getElem?_eq_some_iff.1 hz).1, .inl (by rw [off_succ hz]; omega)⟩
/-- The page looked at next. -/
def nextPg (Z : List Nat) (p : Nat) : Nat := if p + 1 = Z.length then 0 else p + 1
def pgMeasure (Z : List Nat) (p : Nat) : Nat := (if offOf Z (p + 1) = 0 then 0 else Z.length) + (Z.length - p)
theorem Past.full {Z : List Nat} {g p z : Nat} (h : Past Z g p) (hg : g < Z.sum) (hz : Z[nextPg Z p]? = some z) (h0 : 0 < z) : Lies Z ((g + 1) % Z.sum) (nextPg Z p) 0 := by
  obtain ⟨hp, h1⟩ := h
  refine ⟨z, hz, h0, ?_⟩
  unfold nextPg at hz ⊢
  by_cases e : p + 1 = Z.length
  · rw [if_pos e] at hz ⊢
    rw [off_zero]
    have h2 := off_all (Z := Z) (p := p + 1) (by omega)
    rcases h1 with h1 | ⟨h1, h3⟩
    · rw [show g + 1 = Z.sum by omega, Nat.mod_self]
    · omega
  · rw [if_neg e] at hz ⊢
    have h2 := off_le Z (p + 1 + 1)
    rw [off_succ hz] at h2
    rcases h1 with h1 | ⟨h1, h3⟩
    · rw [Nat.mod_eq_of_lt (by omega)]; omega
    · rw [h1, Nat.mod_self]; omega
theorem Past.empty {Z : List Nat} {g p : Nat} (h : Past Z g p) (hg : g < Z.sum) (hz : Z[nextPg Z p]? = some 0) : Past Z g (nextPg Z p) ∧ pgMeasure Z (nextPg Z p) < pgMeasure Z p := by
  obtain ⟨hp, h1⟩ := h
  have hlt := (List.getElem?_eq_some_iff.1 hz).1
  have hs := off_succ hz
  unfold Past pgMeasure
  rw [hs, Nat.add_zero]
  unfold nextPg at hz hlt ⊢
  by_cases e : p + 1 = Z.length
  · rw [if_pos e] at hz hlt ⊢
    rw [off_zero]
    have h2 := off_all (Z := Z) (p := p + 1) (by omega)
    rcases h1 with h1 | ⟨h1, h3⟩
    · refine ⟨⟨hlt, .inr ⟨by omega, rfl⟩⟩, ?_⟩
      rw [if_pos rfl, if_neg (by omega)]; omega
    · omega
  · rw [if_neg e] at hz hlt ⊢
    refine ⟨⟨hlt, h1⟩, ?_⟩
    split <;> omega

set_option maxHeartbeats 1000000 in
theorem after_any (gp gs g p : Nat) (Z : List Nat) (L : List (Int × Int)) (w : World) (h : Pages w gp gs Z L) (hl : Past Z g p) (hg : g < Z.sum) :
    Calls Trym.prog 64 #[.pointer (some ⟨gp, 0, none⟩), .int .i64 p] w fun e w' => ∃ p' : Nat, e = .returned (.int .i64 p') ∧ Lies Z ((g + 1) % Z.sum) p' 0 ∧ w' = w := by
  have H := hide h
  have HL := hide hl
  have c0 := h.c0
  have hps := h.len
  clear h hl
  obtain ⟨k, hk⟩ : ∃ k, k = Z.length := ⟨_, rfl⟩
  rw [← hk] at c0 hps
  have HK := hide hk
  clear hk
  go_enter Trym.func64, Trym.ntmps64
  go_wp2
  go_loop [1] (fun v => ∃ p : Nat, v = .int .i64 p ∧ Past Z g p) (fun v => pgMeasure Z (intOf v).toNat)
  case atStart => exact ⟨p, rfl, HL.out⟩
  case round =>
    clear HL
    obtain ⟨p, rfl, hp⟩ := hrel
    have hpl : p < k := by rw [HK.out]; exact hp.1
    have HP := hide hp
    clear hp
    by_cases e : p + 1 = k
    · have e1 : (p : Int) + 1 = k := by omega
      have hn0 : nextPg Z p = 0 := by unfold nextPg; rw [if_pos (by rw [← HK.out]; exact e)]
      obtain ⟨z, hz⟩ : ∃ z, Z[0]? = some z := ⟨Z[0]'(by rw [← HK.out]; omega), List.getElem?_eq_getElem _⟩
      obtain ⟨a, d1, _⟩ := H.out.pg 0 z hz
      have HN := hide hn0
      have HZ := hide hz
      have k0 : (0 : Int) < k := by omega
      clear hn0 hz
      by_cases h0 : 0 < z
      · have h0' : (0 : Int) < z := by omega
        go_wp2
        go_ret
        refine ⟨0, rfl, ?_, rfl⟩
        have h5 := HP.out.full hg (z := z) (by rw [HN.out]; exact HZ.out) h0
        rw [HN.out] at h5
        exact h5
      · have h0' : ¬ (0 : Int) < z := by omega
        go_wp2
        have ez : z = 0 := by omega
        subst ez
        have h5 := HP.out.empty hg (by rw [HN.out]; exact HZ.out)
        rw [HN.out] at h5
        exact ⟨⟨0, rfl, h5.1⟩, by simpa [intOf] using h5.2⟩
    · have e1 : ¬ (p : Int) + 1 = k := by omega
      have hn0 : nextPg Z p = p + 1 := by unfold nextPg; rw [if_neg (by rw [← HK.out]; exact e)]
      obtain ⟨z, hz⟩ : ∃ z, Z[p + 1]? = some z := ⟨Z[p + 1]'(by rw [← HK.out]; omega), List.getElem?_eq_getElem _⟩
      obtain ⟨a, d1, _⟩ := H.out.pg (p + 1) z hz
      have HN := hide hn0
      have HZ := hide hz
      have k0 : (p : Int) + 1 < k := by omega
      clear hn0 hz
      by_cases h0 : 0 < z
      · have h0' : (0 : Int) < z := by omega
        go_wp2
        go_ret
        refine ⟨p + 1, by go_num, ?_, rfl⟩
        have h5 := HP.out.full hg (z := z) (by rw [HN.out]; exact HZ.out) h0
        rw [HN.out] at h5
        exact h5
      · have h0' : ¬ (0 : Int) < z := by omega
        go_wp2
        have ez : z = 0 := by omega
        subst ez
        have h5 := HP.out.empty hg (by rw [HN.out]; exact HZ.out)
        rw [HN.out] at h5
        refine ⟨⟨p + 1, by go_num, h5.1⟩, by simpa [intOf] using h5.2⟩

set_option maxHeartbeats 1000000 in
theorem next_any (gp gs g p x : Nat) (Z : List Nat) (L : List (Int × Int)) (w : World) (h : Pages w gp gs Z L) (hl : Lies Z g p x) :
    Calls Trym.prog 63 #[.pointer (some ⟨gp, 0, none⟩), .int .i64 p, .int .i64 x] w fun e w' => ∃ p' x' : Nat, e = .returned (.tuple #[.int .i64 p', .int .i64 x']) ∧ Lies Z ((g + 1) % Z.sum) p' x' ∧ w' = w := by
  obtain ⟨z, b, off, hz, hx, hzs, hp, hb, k1, k2, k3⟩ := h.at hl
  have c0 := h.c0
  have hps := h.len
  have hpp : (p : Int) < (Z.length : Int) := by omega
  have HL := hide hl
  have HZ := hide hz
  have HA := hide (fun hpast => after_any gp gs g p Z L w h hpast hl.lt)
  clear h hl hz k2 k3
  obtain ⟨k, hk⟩ : ∃ k, k = Z.length := ⟨_, rfl⟩
  rw [← hk] at c0 hps hp hpp
  clear hk
  go_enter Trym.func63, Trym.ntmps63
  by_cases h1 : x + 1 < z
  · have h2 : (x : Int) + 1 < z := by omega
    go_wp2
    go_returns
    exact ⟨p, x + 1, by go_num, lies_next HL.out HZ.out h1, rfl⟩
  · have h2 : ¬ (x : Int) + 1 < z := by omega
    go_wp2_with fail
    refine (HA.out (HL.out.past HZ.out h1)).mono ?_
    rintro e w' ⟨p', rfl, hl', rfl⟩
    have HL' := hide hl'
    clear hl' HL
    go_wp2
    go_returns
    exact ⟨p', 0, by go_num, HL'.out, rfl⟩
end Go.Proofs.Qxb6601991aMods
