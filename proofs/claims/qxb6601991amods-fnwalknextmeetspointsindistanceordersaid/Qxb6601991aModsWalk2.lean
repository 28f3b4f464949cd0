/-
  zzBytes_.. (37), zzWordsBytes (38), zzNamed (39), zzPagesHold (40), zzInPointOrder (41), zzFirstAtOrAbove (42).
-/
import Derived.Test.Qxb6601991aModsSeat1
import Derived.Test.Qxb6601991aModsWalk1
import Derived.WalkLawsBesides
namespace Go.Proofs.Qxb6601991aMods
open Go.ChangeShapes Go.WideShapes Go.ChangeAt Go.RowKit
set_option linter.unusedVariables false

def intF (x : Int) : List Value := [.int .i64 x]
def u64F (x : Int) : List Value := [.int .u64 x]
theorem Row.int {w : World} {a : Option Addr} {n : Nat} {L : List Int} (h : Row w a n 1 (L.flatMap intF)) {k : Nat} (hk : k < n) :
    ∃ b off x, a = some ⟨b, off, none⟩ ∧ b < w.heap.size ∧ L[k]? = some x ∧ w.cell? ⟨b, off + k, none⟩ = some (.int .i64 x) := by
  obtain ⟨b, off, x, rfl, hb, hx, hc⟩ := h.at (fun _ => rfl) (by omega) hk
  exact ⟨b, off, x, rfl, hb, hx, by simpa [intF] using hc 0 (by omega)⟩
theorem Row.u64 {w : World} {a : Option Addr} {n : Nat} {L : List Int} (h : Row w a n 1 (L.flatMap u64F)) {k : Nat} (hk : k < n) :
    ∃ b off x, a = some ⟨b, off, none⟩ ∧ b < w.heap.size ∧ L[k]? = some x ∧ w.cell? ⟨b, off + k, none⟩ = some (.int .u64 x) := by
  obtain ⟨b, off, x, rfl, hb, hx, hc⟩ := h.at (fun _ => rfl) (by omega) hk
  exact ⟨b, off, x, rfl, hb, hx, by simpa [u64F] using hc 0 (by omega)⟩

theorem words_any (t : Int) (n : Nat) (w : World) (h0 : 0 ≤ t) : Calls Trym.prog 38 #[.int .i64 t, .int .i64 n] w (SomeTotal w) := by
  by_cases h1 : 65536 < n
  · have h2 : (65536 : Int) < n := by omega
    go_enter Trym.func38, Trym.ntmps38
    go_wp2
    go_ret
    exact ⟨_, rfl, by omega, by omega, rfl⟩
  · have h2 : (n : Int) ≤ 65536 := by omega
    go_enter Trym.func38, Trym.ntmps38
    go_wp2_with fail
    refine (add_any t _ w h0).mono ?_
    rintro e w' ⟨rfl, rfl⟩
    have hb := addTo_nonneg t (8 * n) h0
    go_wp2
    go_ret
    exact ⟨_, rfl, hb.1, hb.2, rfl⟩

set_option maxHeartbeats 2000000 in
theorem bytes37 (a1 a3 a4 a5 : Option Addr) (m q y z c1 c3 c4 c5 : Nat) (L3 : List ByteArray) (w : World) (h3 : Row w a3 q 1 (L3.flatMap strF)) :
    Calls Trym.prog 37 #[.slice a1 m c1, .slice a3 q c3, .slice a4 y c4, .slice a5 z c5] w (SomeBool w) := by
  have H3 := hide h3
  clear h3
  go_enter Trym.func37, Trym.ntmps37
  by_cases t1 : (1048576 : Int) < m
  · go_wp2
    go_ret
    exact .inl ⟨rfl, rfl⟩
  by_cases t2 : (1048576 : Int) < q
  · go_wp2
    go_ret
    exact .inl ⟨rfl, rfl⟩
  by_cases t3 : (1048576 : Int) < m + q
  · go_wp2
    go_ret
    exact .inl ⟨rfl, rfl⟩
  go_wp2
  go_loop [9, 10] (fun v i => ∃ (k : Nat) (x : Int), k ≤ q ∧ i = .int .i64 k ∧ v = .int .i64 x ∧ 0 ≤ x ∧ x ≤ 1048576) (fun _ i => q - (intOf i).toNat)
  case atStart => exact ⟨0, m + q, Nat.zero_le _, rfl, rfl, by omega, by omega⟩
  case round =>
  obtain ⟨k3, x3, hk3, rfl, rfl, hy0, hy1⟩ := hrel
  by_cases hlt3 : k3 < q
  · obtain ⟨b, off, s, rfl, hb', _, c1⟩ := H3.out.str hlt3
    have b1 : (k3 : Int) < (q : Int) := by omega
    by_cases hs : (1048576 : Int) < s.size
    · go_wp2
      go_ret
      exact .inl ⟨rfl, rfl⟩
    by_cases hx : 1048576 < x3 + s.size
    · go_wp2
      go_ret
      exact .inl ⟨rfl, rfl⟩
    go_wp2
    exact ⟨⟨k3 + 1, x3 + s.size, by omega, by go_num, rfl, by omega, by omega⟩, by simp [intOf]; omega⟩
  by_cases t4 : (1048576 : Int) < y
  · go_wp2
    go_ret
    exact .inl ⟨rfl, rfl⟩
  by_cases t5 : 1048576 < x3 + y
  · go_wp2
    go_ret
    exact .inl ⟨rfl, rfl⟩
  by_cases t6 : (1048576 : Int) < z
  · go_wp2
    go_ret
    exact .inl ⟨rfl, rfl⟩
  by_cases t7 : 1048576 < x3 + y + z
  · go_wp2
    go_ret
    exact .inl ⟨rfl, rfl⟩
  go_wp2
  go_ret
  exact .inr ⟨rfl, rfl⟩

set_option maxHeartbeats 1000000 in
theorem named_any (a : Option Addr) (n c : Nat) (x : Option Addr) (m d : Nat) (L : List (Int × Int)) (w : World) (hr : Row w a n 2 (ptCells L)) (hwf : WfPts L) (hn : n ≤ 1048576) (hm : m ≤ 1048576) :
    Calls Trym.prog 39 #[.slice a n c, .slice x m d] w fun e w' => (e = .returned (.bool false) ∧ w' = w) ∨ (e = .returned (.bool true) ∧ srvIn L m ∧ w' = w) := by
  have HR := hide hr
  have HW := hide hwf
  clear hr hwf
  go_enter Trym.func39, Trym.ntmps39
  go_wp2
  go_loop [5] (fun i => ∃ k : Nat, k ≤ n ∧ i = .int .i64 k ∧ ∀ j, j < k → (L.getD j (0, 0)).2 < m) (fun i => n - (intOf i).toNat)
  case atStart => exact ⟨0, Nat.zero_le _, rfl, fun j hj => by omega⟩
  case round =>
    obtain ⟨k, hk, rfl, hj⟩ := hrel
    have HJ := hide hj
    clear hj
    by_cases hlt : k < n
    · obtain ⟨b, off, p, s, rfl, hb, hp, c1, c2⟩ := HR.out.pt hlt
      have hb1 := HW.out k (by rw [HR.out.len]; exact hlt)
      rw [hp] at hb1
      obtain ⟨_, _, s0, s1⟩ := hb1
      simp only at s0 s1
      have b1 : (k : Int) < (n : Int) := by omega
      have HP := hide hp
      clear hp c1
      by_cases hs : s < m
      · go_wp2
        go_round
        case rel =>
          refine ⟨k + 1, by omega, by go_num, fun j hj => ?_⟩
          by_cases e : j = k
          · rw [e, HP.out]; exact hs
          · exact HJ.out j (by omega)
        case measure => simp [intOf]; omega
      · go_wp2
        go_ret
        exact .inl ⟨rfl, rfl⟩
    · go_wp2
      go_ret
      exact .inr ⟨rfl, fun j hj => HJ.out j (by rw [HR.out.len] at hj; omega), rfl⟩

theorem take_sum {L : List Int} {k : Nat} {x : Int} (hx : L[k]? = some x) : (L.take (k + 1)).sum = (L.take k).sum + x := by
  rw [take_snoc1 hx, List.sum_append]; simp
set_option maxHeartbeats 1000000 in
theorem pages_any (a : Option Addr) (n c : Nat) (m : Nat) (L : List Int) (w : World) (hr : Row w a n 1 (L.flatMap intF)) (hn : n ≤ 1048576) (hm : m ≤ 1048576) :
    Calls Trym.prog 40 #[.slice a n c, .int .i64 m] w fun e w' => (e = .returned (.bool false) ∧ w' = w) ∨ (e = .returned (.bool true) ∧ ((∀ (j : Nat) (x : Int), L[j]? = some x → 0 ≤ x ∧ x ≤ m) ∧ L.sum = m) ∧ w' = w) := by
  have HR := hide hr
  have HL := hide (hr.llen (fun _ => rfl) (by omega))
  clear hr
  go_enter Trym.func40, Trym.ntmps40
  go_wp2
  go_loop [5, 6] (fun v i => ∃ (k : Nat) (s : Int), k ≤ n ∧ i = .int .i64 k ∧ v = .int .i64 s ∧ 0 ≤ s ∧ s ≤ m ∧ (L.take k).sum = s ∧ ∀ (j : Nat) (x : Int), j < k → L[j]? = some x → 0 ≤ x ∧ x ≤ m) (fun _ i => n - (intOf i).toNat)
  case atStart => exact ⟨0, 0, Nat.zero_le _, rfl, rfl, by omega, by omega, by simp, fun j x hj => by omega⟩
  case round =>
    obtain ⟨k, s, hk, rfl, rfl, hs0, hs1, hsum, hj⟩ := hrel
    have HJ := hide hj
    have HS := hide hsum
    clear hj hsum
    by_cases hlt : k < n
    · obtain ⟨b, off, x, rfl, hb, hx, c1⟩ := HR.out.int hlt
      have b1 : (k : Int) < (n : Int) := by omega
      have HX := hide hx
      clear hx
      by_cases h1 : x < 0
      · go_wp2
        go_ret
        exact .inl ⟨rfl, rfl⟩
      by_cases h2 : (m : Int) < x
      · go_wp2
        go_ret
        exact .inl ⟨rfl, rfl⟩
      by_cases h3 : (m : Int) < s + x
      · go_wp2
        go_ret
        exact .inl ⟨rfl, rfl⟩
      go_wp2
      refine ⟨⟨k + 1, s + x, by omega, by go_num, rfl, by omega, by omega, by rw [take_sum HX.out, HS.out], fun j y hj hy => ?_⟩, by simp [intOf]; omega⟩
      by_cases e : j = k
      · subst e
        rw [HX.out] at hy
        cases hy
        exact ⟨by omega, by omega⟩
      · exact HJ.out j y (by omega) hy
    · by_cases h4 : s = m
      · go_wp2
        go_ret
        refine .inr ⟨by simp, ⟨fun j x hx => HJ.out j x (by have := (List.getElem?_eq_some_iff.1 hx).1; rw [HL.out] at this; omega) hx, ?_⟩, rfl⟩
        have := HS.out
        rw [List.take_of_length_le (by rw [HL.out]; omega)] at this
        omega
      · go_wp2
        go_ret
        exact .inl ⟨by simp [h4], rfl⟩

/-- A point's position and its server's name. -/
def ptKey (L : List (Int × Int)) (N : List ByteArray) (i : Nat) : Int × List UInt8 := ((L.getD i (0, 0)).1, (N.getD (L.getD i (0, 0)).2.toNat ⟨#[]⟩).toList)

set_option maxHeartbeats 1000000 in
theorem first_any (a : Option Addr) (n c : Nat) (q : Int) (L : List (Int × Int)) (N : List ByteArray) (w : World) (hr : Row w a n 2 (ptCells L)) (hn : n ≤ 1048576) (h0 : 0 < n) :
    Calls Trym.prog 42 #[.slice a n c, .int .u64 q] w fun e w' => ∃ s : Nat, e = .returned (.int .i64 s) ∧ StartsAt (ptKey L N) n q s ∧ w' = w := by
  have HR := hide hr
  clear hr
  go_enter Trym.func42, Trym.ntmps42
  go_wp2
  go_loop [5] (fun i => ∃ k : Nat, k ≤ n ∧ i = .int .i64 k ∧ ∀ j, j < k → (ptKey L N j).1 < q) (fun i => n - (intOf i).toNat)
  case atStart => exact ⟨0, Nat.zero_le _, rfl, fun j hj => by omega⟩
  case round =>
    obtain ⟨k, hk, rfl, hj⟩ := hrel
    have HJ := hide hj
    clear hj
    by_cases hlt : k < n
    · obtain ⟨b, off, p, s, rfl, hb, hp, c1, c2⟩ := HR.out.pt hlt
      have b1 : (k : Int) < (n : Int) := by omega
      have HP := hide (show (ptKey L N k).1 = p by unfold ptKey; rw [hp])
      clear hp c2
      by_cases hs : q ≤ p
      · go_wp2
        go_ret
        exact ⟨k, rfl, ⟨hlt, HJ.out, .inl (by rw [HP.out]; exact hs)⟩, rfl⟩
      · go_wp2
        refine ⟨⟨k + 1, by omega, by go_num, fun j hj => ?_⟩, by simp [intOf]; omega⟩
        by_cases e : j = k
        · rw [e, HP.out]; omega
        · exact HJ.out j (by omega)
    · go_wp2
      go_ret
      exact ⟨0, rfl, ⟨h0, fun j hj => by omega, .inr ⟨rfl, fun j hj => HJ.out j (by omega)⟩⟩, rfl⟩

theorem nm_get {N : List ByteArray} {k : Nat} {s : ByteArray} (h : N[k]? = some s) : N.getD k ⟨#[]⟩ = s := by rw [List.getD_eq_getElem?_getD, h]; rfl
/-- The server's name lies at its number. -/
theorem Row.nameAt {w : World} {a : Option Addr} {m : Nat} {N : List ByteArray} (h : Row w a m 1 (N.flatMap strF)) {s : Int} (h0 : 0 ≤ s) (h1 : s < m) :
    ∃ b off x, a = some ⟨b, off, none⟩ ∧ b < w.heap.size ∧ N.getD s.toNat ⟨#[]⟩ = x ∧ w.cell? ⟨b, off + s.toNat, none⟩ = some (.string x) := by
  obtain ⟨b, off, x, rfl, hb, hx, c⟩ := h.str (k := s.toNat) (by omega)
  exact ⟨b, off, x, rfl, hb, nm_get hx, c⟩

set_option maxRecDepth 100000 in
set_option maxHeartbeats 2000000 in
theorem inorder_any (a : Option Addr) (n c : Nat) (x : Option Addr) (m d : Nat) (L : List (Int × Int)) (N : List ByteArray) (w : World) (hr : Row w a n 2 (ptCells L)) (hwf : WfPts L) (hnm : Row w x m 1 (N.flatMap strF)) (hin : srvIn L m) (hn : n ≤ 1048576) (hm : m ≤ 1048576) (h0 : 0 < n) :
    Calls Trym.prog 41 #[.slice a n c, .slice x m d] w fun e w' => (e = .returned (.bool false) ∧ Below w.heap.size w w') ∨ (e = .returned (.bool true) ∧ InOrd (ptKey L N) n ∧ Below w.heap.size w w') := by
  have HR := hide hr
  have HW := hide hwf
  have HN := hide hnm
  have HI := hide hin
  clear hr hwf hnm hin
  go_enter Trym.func41, Trym.ntmps41
  go_wp2
  go_loopw [5] (fun i wr => ∃ k : Nat, k < n ∧ i = .int .i64 ((k : Int) + 1) ∧ (∀ j, j < k → lessK (ptKey L N (j + 1)) (ptKey L N j) = false) ∧ Below w.heap.size w wr) (fun i _ => n - (intOf i).toNat)
  case atStart => exact ⟨0, h0, rfl, fun j hj => by omega, Below.refl _ _⟩
  case round =>
    obtain ⟨k, hk, rfl, hj, hbel⟩ := hrel
    have HJ := hide hj
    have HB := hide hbel
    clear hj hbel
    by_cases hlt : k + 1 < n
    · obtain ⟨b, off, p, s, rfl, hb, hp, c1, c2⟩ := (HR.out.below HB.out).pt hk
      obtain ⟨b', off', p', s', e, hb', hp', c1', c2'⟩ := (HR.out.below HB.out).pt hlt
      have e6 : b' = b ∧ off' = off := by simpa [eq_comm] using e
      rw [e6.1, e6.2] at c1' c2'
      clear e e6 hb'
      have hs := HW.out k (by rw [HR.out.len]; exact hk)
      have hs' := HW.out (k + 1) (by rw [HR.out.len]; exact hlt)
      have hi := HI.out k (by rw [HR.out.len]; exact hk)
      have hi' := HI.out (k + 1) (by rw [HR.out.len]; exact hlt)
      have HK := hide (show ptKey L N k = (p, (N.getD s.toNat ⟨#[]⟩).toList) by unfold ptKey; rw [hp])
      have HK' := hide (show ptKey L N (k + 1) = (p', (N.getD s'.toNat ⟨#[]⟩).toList) by unfold ptKey; rw [hp'])
      rw [hp] at hs hi
      rw [hp'] at hs' hi'
      obtain ⟨_, _, s0, _⟩ := hs
      obtain ⟨_, _, s0', _⟩ := hs'
      simp only at s0 s0' hi hi'
      obtain ⟨g, o, y, rfl, hg, hy, d1⟩ := (HN.out.below HB.out).nameAt s0 hi
      obtain ⟨g', o', y', e, hg', hy', d2⟩ := (HN.out.below HB.out).nameAt s0' hi'
      have e6 : g' = g ∧ o' = o := by simpa [eq_comm] using e
      rw [e6.1, e6.2] at d2
      clear e e6 hg'
      rw [hy] at HK
      rw [hy'] at HK'
      have b1 : (k : Int) + 1 < (n : Int) := by omega
      have b2 : (k : Int) < (n : Int) := by omega
      have b3 : b ≠ wr.heap.size := by omega
      have b4 : g ≠ wr.heap.size := by omega
      have b5 : g ≠ wr.heap.size + 1 := by omega
      clear hp hp' hy hy'
      by_cases q1 : p' < p
      · go_wp2
        go_ret
        exact .inl ⟨rfl, HB.out.trans (Below.mono (by go_grown) HB.out.size)⟩
      by_cases q2 : p = p'
      · subst q2
        cases q3 : (Op.bytesLess y.toList y'.toList || y.toList == y'.toList) with
        | true =>
          have HT := hide (show lessK (ptKey L N (k + 1)) (ptKey L N k) = false by
            rw [HK.out, HK'.out]
            unfold lessK
            rw [if_pos rfl]
            simp only [Bool.or_eq_true, beq_iff_eq] at q3
            rcases q3 with q3 | q3
            · exact bl_asym _ _ q3
            · rw [q3]; exact bl_irr _)
          go_wp2
          go_quiet (fail)
          go_wp2
          refine ⟨⟨k + 1, hlt, by go_num, fun j hj => ?_, below_draws (HB.out.trans (Below.mono (by go_grown) HB.out.size)) _⟩, by simp [intOf]; omega⟩
          by_cases e : j = k
          · subst e; exact HT.out
          · exact HJ.out j (by omega)
        | false =>
          go_wp2
          go_quiet (fail)
          go_wp2
          go_ret
          exact .inl ⟨rfl, below_draws (HB.out.trans (Below.mono (by go_grown) HB.out.size)) _⟩
      · have HT := hide (show lessK (ptKey L N (k + 1)) (ptKey L N k) = false by
          rw [HK.out, HK'.out]
          unfold lessK
          rw [if_neg (fun e => q2 e.symm)]
          simp; omega)
        go_wp2
        go_quiet (fail)
        go_wp2
        refine ⟨⟨k + 1, hlt, by go_num, fun j hj => ?_, below_draws (HB.out.trans (Below.mono (by go_grown) HB.out.size)) _⟩, by simp [intOf]; omega⟩
        by_cases e : j = k
        · subst e; exact HT.out
        · exact HJ.out j (by omega)
    · go_wp2
      go_ret
      exact .inr ⟨rfl, fun j hj => HJ.out j (by omega), HB.out⟩
end Go.Proofs.Qxb6601991aMods
