/-
  zzServersIn (12), zzCloneBools (13), zzStays (48).
-/
import Derived.Test.Qxb6601991aModsBytes
namespace Go.Proofs.Qxb6601991aMods
open Go.ChangeShapes Go.WideShapes Go.ChangeAt Go.RowKit
set_option linter.unusedVariables false

/-- Every position a uint64, every server a uint32. -/
def WfPts (L : List (Int × Int)) : Prop := ∀ k, k < L.length → 0 ≤ (L.getD k (0, 0)).1 ∧ (L.getD k (0, 0)).1 ≤ 18446744073709551615 ∧ 0 ≤ (L.getD k (0, 0)).2 ∧ (L.getD k (0, 0)).2 ≤ 4294967295

theorem Row.len {w : World} {a : Option Addr} {n : Nat} {L : List (Int × Int)} (h : Row w a n 2 (ptCells L)) : L.length = n := by
  have := h.1; rw [ptCells_length] at this; omega
/-- A point of a row: its two cells. -/
theorem Row.pt {w : World} {a : Option Addr} {n : Nat} {L : List (Int × Int)} (h : Row w a n 2 (ptCells L)) {k : Nat} (hk : k < n) :
    ∃ b off p s, a = some ⟨b, off, none⟩ ∧ b < w.heap.size ∧ L.getD k (0, 0) = (p, s) ∧ w.cell? ⟨b, off + k * 2, none⟩ = some (.int .u64 p) ∧ w.cell? ⟨b, off + k * 2 + 1, none⟩ = some (.int .u32 s) := by
  obtain ⟨b, off, rfl, hlt, hc⟩ := h.2 (by omega)
  have hl := h.len
  refine ⟨b, off, (L.getD k (0, 0)).1, (L.getD k (0, 0)).2, rfl, hlt, rfl, ?_, ?_⟩
  · rw [hc (k * 2) (by omega), ptCells_pos L k (by omega)]
  · rw [Nat.add_assoc, hc (k * 2 + 1) (by omega), ptCells_srv L k (by omega)]

theorem eql_nil (a : Option Addr) (l c : Nat) (w : World) : (binOp .eql 23 (.slice a l c) (.slice none 0 0)).run Trym.prog w = .ok (.bool a.isNone) w :=
  Lib.run_eql_slice_nil w 23 4 a l c 0 0 Trym.underlying23

def srvIn (L : List (Int × Int)) (n : Nat) : Prop := ∀ k, k < L.length → (L.getD k (0, 0)).2 < n

theorem srv_nil (a : Option Addr) (n c : Nat) (w : World) : Calls Trym.prog 12 #[.slice a n c, .slice none 0 0] w fun e w' => e = .returned (.bool true) ∧ w' = w := by
  have hq := eql_nil none 0 0
  go_enter Trym.func12, Trym.ntmps12
  go_wp2
  go_ret
  exact ⟨rfl, rfl⟩

set_option maxHeartbeats 1000000 in
theorem srv_any (a : Option Addr) (n c : Nat) (x : Addr) (m d : Nat) (L : List (Int × Int)) (w : World) (hr : Row w a n 2 (ptCells L)) (hwf : WfPts L) (hn : n ≤ 1048576) (hm : m ≤ 1048576) :
    Calls Trym.prog 12 #[.slice a n c, .slice (some x) m d] w fun e w' => (e = .returned (.bool false) ∧ ¬ srvIn L m ∧ w' = w) ∨ (e = .returned (.bool true) ∧ srvIn L m ∧ w' = w) := by
  have hq := eql_nil (some x) m d
  have HR := hide hr
  have HW := hide hwf
  clear hr hwf
  go_enter Trym.func12, Trym.ntmps12
  go_wp2
  go_loop [5] (fun i => ∃ k : Nat, k ≤ n ∧ i = .int .i64 k ∧ ∀ j, j < k → (L.getD j (0, 0)).2 < m) (fun i => n - (intOf i).toNat)
  case atStart => exact ⟨0, Nat.zero_le _, rfl, fun j hj => by omega⟩
  case round =>
    obtain ⟨k, hk, rfl, hj⟩ := hrel
    have HJ := hide hj
    clear hj
    by_cases hlt : k < n
    · obtain ⟨b, off, p, s, rfl, hb, hp, c1, c2⟩ := HR.out.pt hlt
      have hb1 := HW.out k (by rw [HR.out.len]; exact hlt)
      rw [hp] at hb1
      obtain ⟨_, _, s0, s1⟩ := hb1
      simp only at s0 s1
      have b1 : (k : Int) < (n : Int) := by omega
      have HP := hide hp
      clear hp c1
      by_cases hs : s < m
      · go_wp2
        go_round
        case rel =>
          refine ⟨k + 1, by omega, by go_num, fun j hj => ?_⟩
          by_cases e : j = k
          · rw [e, HP.out]; exact hs
          · exact HJ.out j (by omega)
        case measure => simp [intOf]; omega
      · have HN : Hid (¬ srvIn L m) := fun h => hs (by have := h k (by rw [HR.out.len]; exact hlt); rw [HP.out] at this; exact this)
        go_wp2
        go_ret
        exact .inl ⟨rfl, HN.out, rfl⟩
    · go_wp2
      go_ret
      exact .inr ⟨rfl, fun j hj => HJ.out j (by rw [HR.out.len] at hj; omega), rfl⟩

/-! ### zzCloneBools -/
theorem clone_nil (w : World) : Calls Trym.prog 13 #[.slice none 0 0] w fun e w' => e = .returned (.slice none 0 0) ∧ w' = w := by
  have hq := eql_nil none 0 0
  go_enter Trym.func13, Trym.ntmps13
  go_wp2
  go_ret
  exact ⟨rfl, rfl⟩

/-- A bool of a row. -/
theorem Row.bool {w : World} {a : Option Addr} {n : Nat} {L : List Bool} (h : Row w a n 1 (L.map Value.bool)) {k : Nat} (hk : k < n) :
    ∃ b off, a = some ⟨b, off, none⟩ ∧ b < w.heap.size ∧ w.cell? ⟨b, off + k, none⟩ = some (.bool (L.getD k false)) := by
  obtain ⟨b, off, rfl, hlt, hc⟩ := h.2 (by omega)
  have hl := h.1
  rw [List.length_map] at hl
  refine ⟨b, off, rfl, hlt, ?_⟩
  rw [hc k (by omega)]
  simp [List.getElem?_eq_getElem (show k < L.length by omega)]

set_option maxHeartbeats 1000000 in
theorem clone_some (x : Addr) (n c : Nat) (L : List Bool) (w : World) (hr : Row w (some x) n 1 (L.map Value.bool)) (hn : n ≤ 1048576) :
    Calls Trym.prog 13 #[.slice (some x) n c] w fun e w' => ∃ g, e = .returned (.slice (some ⟨g, 0, none⟩) n n) ∧ w.heap.size ≤ g ∧ OB w' g 4 (L.map Value.bool) ∧ Below w.heap.size w w' := by
  obtain ⟨i0, hi, hz0, hz1, hz2⟩ := info_parts info4
  have hq := eql_nil (some x) n c
  have HR := hide hr
  clear hr
  go_enter Trym.func13, Trym.ntmps13
  go_wp2_with (at_make; refine wpList_make_full _ rfl _ _ 23 rfl w.heap.size 4 i0 (.bool false) 1 Trym.underlying23 hi hz0 hz1 .i64 .i64 _ _ n rfl rfl rfl rfl (by rw [hz2]; omega) (by unfold maxLen; omega) (Nat.le_refl _) ?_; intro w1 o1 g1)
  have hl0 : L.length = n := by have := HR.out.1; rw [List.length_map] at this; omega
  have ho1 : OB w1 w.heap.size 4 ((List.replicate n false).map Value.bool) := by
    have := own_full o1
    rw [show (Value.bool false).cells = #[Value.bool false] from rfl, Nat.mul_one, toList_madeCells_one] at this
    simpa using this
  have hb1 : Below w.heap.size w w1 := grown_below g1 (Nat.le_refl _) (fun _ h => by cases h)
  clear o1 g1 hi hz0 hz1 hz2
  have HL := hide hl0
  clear hl0
  go_loopw [4] (fun i wr => ∃ k : Nat, k ≤ n ∧ i = .int .i64 k ∧ ∃ M : List Bool, M.length = n ∧ (∀ j, j < k → M.getD j false = L.getD j false) ∧ OB wr w.heap.size 4 (M.map Value.bool) ∧ Below w.heap.size w wr) (fun i _ => n - (intOf i).toNat)
  case atStart => exact ⟨0, Nat.zero_le _, rfl, _, by simp, fun j hj => by omega, ho1, hb1⟩
  case round =>
    obtain ⟨k, hk, rfl, M, hM, hj, hob, hbel⟩ := hrel
    clear ho1 hb1
    have HM := hide hM
    have HJ := hide hj
    clear hj hM
    by_cases hlt : k < n
    · obtain ⟨b, off, hx, hb, c1⟩ := HR.out.bool hlt
      cases hx
      have c1' : wr.cell? ⟨b, off + k, none⟩ = some (.bool (L.getD k false)) := (hbel.cell (p := ⟨b, off + k, none⟩) hb).trans c1
      have hb' : b < wr.heap.size := Nat.lt_of_lt_of_le hb hbel.size
      generalize hz : L.getD k false = z at c1'
      have HZ := hide hz
      clear hz c1
      obtain ⟨u, c2⟩ := hob.some (j := k) (by rw [List.length_map, HM.out]; exact hlt)
      have f2 := hob.frozen k
      have b1 : (k : Int) < (n : Int) := by omega
      have HO := hide hob
      have HB := hide hbel
      clear hob hbel
      go_wp2
      go_roundw
      case rel =>
        refine ⟨k + 1, by omega, by go_num, M.set k z, by rw [List.length_set]; exact HM.out, fun j hj => ?_, ?_, HB.out.setCell (Nat.le_refl _) _⟩
        · have hl := HM.out
          by_cases e : j = k
          · subst e; rw [HZ.out]; simp [List.getD_eq_getElem?_getD, hl, hlt]
          · have := HJ.out j (by omega)
            simp only [List.getD_eq_getElem?_getD] at this ⊢
            rw [List.getElem?_set_ne (by omega)]; exact this
        · rw [List.map_set]; exact HO.out.set k _
      case measure => simp [intOf]; omega
    · go_wp2
      go_ret
      have e : M = L := by
        apply List.ext_getElem?
        intro j
        have h1 := HM.out
        have h2 := HL.out
        by_cases hjn : j < n
        · have := HJ.out j (by omega)
          simp only [List.getD_eq_getElem?_getD] at this
          rw [List.getElem?_eq_getElem (by omega), List.getElem?_eq_getElem (by omega)] at this ⊢
          simpa using this
        · rw [List.getElem?_eq_none (by omega), List.getElem?_eq_none (by omega)]
      subst e
      exact ⟨_, rfl, Nat.le_refl _, hob, hbel⟩

/-! ### zzStays -/
theorem stays_nil (p s : Int) (w : World) : Calls Trym.prog 48 #[.agg #[.int .u64 p, .int .u32 s], .slice none 0 0] w fun e w' => e = .returned (.bool true) ∧ Below w.heap.size w w' := by
  have hq := eql_nil none 0 0
  go_enter Trym.func48, Trym.ntmps48
  go_wp2
  go_ret
  exact ⟨rfl, by go_grown⟩
theorem stays_some (p s : Int) (b off n c : Nat) (z : Bool) (w : World) (hb : b < w.heap.size) (hs : 0 ≤ s) (hs' : s < n) (hc : w.cell? ⟨b, off + s.toNat, none⟩ = some (.bool z)) :
    Calls Trym.prog 48 #[.agg #[.int .u64 p, .int .u32 s], .slice (some ⟨b, off, none⟩) n c] w fun e w' => e = .returned (.bool (!z)) ∧ Below w.heap.size w w' := by
  have hq := eql_nil (some ⟨b, off, none⟩) n c
  go_enter Trym.func48, Trym.ntmps48
  go_wp2
  go_ret
  exact ⟨rfl, by go_grown⟩
end Go.Proofs.Qxb6601991aMods
