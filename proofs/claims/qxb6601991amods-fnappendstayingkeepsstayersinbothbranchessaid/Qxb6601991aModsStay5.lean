/-
  FnAppendStayingKeepsStayersInBothBranches (3): what its walk needs of the table of those that leave, whatever it is.
-/
import Derived.Test.Qxb6601991aModsStay4
namespace Go.Proofs.Qxb6601991aMods
open Go.ChangeShapes Go.WideShapes Go.ChangeAt Go.RowKit
set_option linter.unusedVariables false

def GotPost (w : World) (g : Nat) (W : List (Int × Int)) : Ending → World → Prop := fun e w' =>
  ∃ a' c', e = .returned (.slice a' W.length c') ∧ Row w' a' W.length 2 (ptCells W) ∧ w.grownBy w' (some g)
def RoomPost (w : World) (g n m c : Nat) (M L : List (Int × Int)) : Ending → World → Prop := fun e w' =>
  e = .returned (.slice (some ⟨g, 0, none⟩) (n + L.length) c) ∧ (∃ M', M'.length = c ∧ M'.take (n + L.length) = M.take n ++ L ∧ M'.drop (n + m) = M.drop (n + m) ∧ OB w' g 37 (ptCells M')) ∧ w.grownBy w' (some g)

/-- The table of those that leave, as it lies in the world w0: lvv its value, kp who stays. -/
structure Lv (w0 : World) (L1 L2 : List (Int × Int)) (lvv : Value) (kp : Int × Int → Bool) : Prop where
  stays : Stays w0 L2 lvv kp
  got : ∀ wx g g2 c2, Below w0.heap.size w0 wx → w0.heap.size ≤ g → g2 ≠ g → OB wx g 37 (ptCells L1) → OB wx g2 37 (ptCells L2) → Calls Trym.prog 16 #[.slice (some ⟨g, 0, none⟩) L1.length L1.length, .slice (some ⟨g2, 0, none⟩) L2.length c2, lvv] wx (GotPost wx g (L1 ++ L2.filter kp))
  room : ∀ wx g g2 n c c2 M, Below w0.heap.size w0 wx → w0.heap.size ≤ g → g2 ≠ g → OB wx g 37 (ptCells M) → OB wx g2 37 (ptCells L2) → M.length = c → n + L2.length ≤ c → c ≤ 1048576 → n ≤ 65536 → Calls Trym.prog 16 #[.slice (some ⟨g, 0, none⟩) n c, .slice (some ⟨g2, 0, none⟩) L2.length c2, lvv] wx (RoomPost wx g n L2.length c M (L2.filter kp))

theorem below_grown {w w' : World} (h : Below w.heap.size w w') (r : Option Nat) : w.grownBy w' r := ⟨h.os, h.tape, h.output, h.size, fun k hk _ => h.block k hk⟩
theorem room_ret {w : World} {g n m c : Nat} {M L : List (Int × Int)} : ∀ e w', RoomPost w g n m c M L e w' → ∃ v, e = .returned v := fun e w' h => ⟨_, h.1⟩
theorem got_ret {w : World} {g : Nat} {W : List (Int × Int)} : ∀ e w', GotPost w g W e w' → ∃ v, e = .returned v := fun e w' ⟨a', c', h, _⟩ => ⟨_, h⟩
theorem room_got {w : World} {g c : Nat} {M L : List (Int × Int)} (hM : M.length = c) (e : Ending) (w' : World) (h : RoomPost w g c 0 c M L e w') (hl : L = []) : GotPost w g (M ++ L) e w' := by
  subst hl
  obtain ⟨h1, ⟨M', e1, e2, e3, e4⟩, h3⟩ := h
  have : M' = M := by
    have := e2
    rw [List.take_of_length_le (by simp; omega), List.take_of_length_le (by omega), List.append_nil] at this
    exact this
  subst this
  refine ⟨some ⟨g, 0, none⟩, c, ?_, ?_, h3⟩
  · rw [h1]; simp [e1]
  · rw [List.append_nil]; exact e4.row' (by rw [ptCells_length])

theorem lv_nil (w0 : World) (L1 L2 : List (Int × Int)) (h1 : L1.length ≤ 65536) (h2 : L2.length ≤ 65536) : Lv w0 L1 L2 (.slice none 0 0) (fun _ => true) := by
  have hf : L2.filter (fun _ => true) = L2 := List.filter_eq_self.2 (fun _ _ => rfl)
  have room : ∀ wx g g2 n c c2 M, Below w0.heap.size w0 wx → w0.heap.size ≤ g → g2 ≠ g → OB wx g 37 (ptCells M) → OB wx g2 37 (ptCells L2) → M.length = c → n + L2.length ≤ c → c ≤ 1048576 → n ≤ 65536 → Calls Trym.prog 16 #[.slice (some ⟨g, 0, none⟩) n c, .slice (some ⟨g2, 0, none⟩) L2.length c2, .slice none 0 0] wx (RoomPost wx g n L2.length c M (L2.filter fun _ => true)) := by
    intro wx g g2 n c c2 M _ _ _ ho ho2 hM hr hc hn
    rw [hf]
    refine zzAppend ((nil_room g g2 n c L2.length c2 M L2 wx ho ho2 hM rfl hr hc).mono ?_) room_ret
    rintro e w' ⟨rfl, hob, hg⟩
    refine ⟨rfl, ⟨_, ?_, ?_, ?_, hob⟩, hg⟩
    · simp; omega
    · rw [List.take_append_of_le_length (by simp; omega), List.take_of_length_le (by simp; omega)]
    · rw [List.drop_append_of_le_length (by simp; omega), List.drop_of_length_le (by simp; omega), List.nil_append]
  refine ⟨stays_nil_all w0 L2, ?_, room⟩
  intro wx g g2 c2 hb hg hne ho ho2
  by_cases hm : L2.length = 0
  · have hn0 : L2.filter (fun _ => true) = [] := by rw [hf]; exact List.eq_nil_of_length_eq_zero hm
    have h := room wx g g2 L1.length L1.length c2 L1 hb hg hne ho ho2 rfl (by omega) (by omega) h1
    exact h.mono fun e w' hp => room_got rfl e w' (by rw [hm] at hp; exact hp) hn0
  · refine zzAppend ((nil_grow g g2 L1.length L2.length c2 L1 L2 wx ho ho2 rfl rfl (by omega) h1 h2).mono ?_) got_ret
    rintro e w' ⟨a', c', rfl, hr, hbb⟩
    rw [hf]
    exact ⟨a', c', by rw [List.length_append], by rw [List.length_append]; exact hr, below_grown hbb _⟩

theorem lv_some (w0 : World) (L1 L2 : List (Int × Int)) (gl nl cl : Nat) (lv : List Bool) (hl : OB w0 gl 4 (lv.map Value.bool)) (hlv : lv.length = nl) (hs : srvIn L2 nl) (hw : WfPts L2) (h1 : L1.length ≤ 65536) (h2 : L2.length ≤ 65536) : Lv w0 L1 L2 (.slice (some ⟨gl, 0, none⟩) nl cl) (keepB lv) := by
  have room : ∀ wx g g2 n c c2 M, Below w0.heap.size w0 wx → w0.heap.size ≤ g → g2 ≠ g → OB wx g 37 (ptCells M) → OB wx g2 37 (ptCells L2) → M.length = c → n + L2.length ≤ c → c ≤ 1048576 → n ≤ 65536 → Calls Trym.prog 16 #[.slice (some ⟨g, 0, none⟩) n c, .slice (some ⟨g2, 0, none⟩) L2.length c2, .slice (some ⟨gl, 0, none⟩) nl cl] wx (RoomPost wx g n L2.length c M (L2.filter (keepB lv))) := by
    intro wx g g2 n c c2 M hb hg hne ho ho2 hM hr hc hn
    have hgl := hl.lt
    exact zzAppend (some_room g g2 n c L2.length c2 gl nl cl M L2 lv wx ho ho2 (hl.below hl.lt hb) hlv hM rfl hr hc hn hs hw hne (by omega)) room_ret
  refine ⟨stays_some_all w0 L2 gl nl cl lv (hl.row' (by rw [List.length_map, hlv]; omega)) hs hw, ?_, room⟩
  intro wx g g2 c2 hb hg hne ho ho2
  by_cases hm : L2.length = 0
  · have hn0 : L2.filter (keepB lv) = [] := by rw [List.eq_nil_of_length_eq_zero hm]; rfl
    have h := room wx g g2 L1.length L1.length c2 L1 hb hg hne ho ho2 rfl (by omega) (by omega) h1
    exact h.mono fun e w' hp => room_got rfl e w' (by rw [hm] at hp; exact hp) hn0
  · refine zzAppend ((some_grow g g2 L1.length L2.length c2 gl nl cl L1 L2 lv wx ho ho2 (hl.below hl.lt hb) hlv rfl rfl (by omega) h1 h2 hs hw).mono ?_) got_ret
    rintro e w' ⟨a', c', rfl, hr, hbb⟩
    exact ⟨a', c', by rw [List.length_append], by rw [List.length_append]; exact hr, below_grown hbb _⟩

/-- The clone of the table, whatever it is. -/
theorem clone_lv (a : Option Addr) (nl c : Nat) (lv : List Bool) (L1 L2 : List (Int × Int)) (w : World) (hr : Row w a nl 1 (lv.map Value.bool)) (ha : a = none → nl = 0 ∧ c = 0) (hs : a ≠ none → srvIn L2 nl) (hw : WfPts L2) (h1 : L1.length ≤ 65536) (h2 : L2.length ≤ 65536) (hn : nl ≤ 1048576) :
    Calls Trym.prog 13 #[.slice a nl c] w fun e w' => ∃ lvv kp, e = .returned lvv ∧ Lv w' L1 L2 lvv kp ∧ Below w.heap.size w w' := by
  cases a with
  | none =>
    obtain ⟨rfl, rfl⟩ := ha rfl
    refine (clone_nil w).mono ?_
    rintro e w' ⟨rfl, rfl⟩
    exact ⟨_, _, rfl, lv_nil w' L1 L2 h1 h2, Below.refl _ _⟩
  | some x =>
    have hl : lv.length = nl := by have := hr.1; rw [List.length_map] at this; omega
    refine (clone_some x nl c lv w hr hn).mono ?_
    rintro e w' ⟨g, rfl, hg, hob, hb⟩
    exact ⟨_, _, rfl, lv_some w' L1 L2 g nl nl lv hob hl (hs (by simp)) hw h1 h2, hb⟩
end Go.Proofs.Qxb6601991aMods
