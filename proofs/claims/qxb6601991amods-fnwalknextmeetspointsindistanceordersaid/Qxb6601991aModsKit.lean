/-
  Small laws for this seat's walks.
-/
import Derived.Test.Qxb6601991aModsRows
import Derived.WalkKit
import Derived.ProofKit
import Derived.Handy
import Derived.Deep.QuietTactic
import Derived.BigQuiet
import Derived.WalkSpells
import Derived.Deep.RegionHeld3
import Derived.Laws.CopyOwn
namespace Go.Proofs.Qxb6601991aMods
open Go.ChangeShapes Go.WideShapes Go.ChangeAt Go.RowKit
set_option linter.unusedVariables false

theorem hide {p : Prop} (h : p) : Hid p := h
theorem ret_true {v : Value} (h : v = .bool true) : Ending.returned v = .returned (.bool true) := by rw [h]
theorem ret_val {v v' : Value} (h : v = v') : Ending.returned v = .returned v' := by rw [h]
theorem below_draws {B : Nat} {a w : World} (h : Below B a w) (q : Nat) : Below B a (w.drewN q) := ⟨h.os, h.tape, h.output, h.size, h.block⟩

/-- The cells of a block that has just been laid. -/
theorem cells_new (w : World) (t : TypeId) (l : List Value) : ∀ (j : Nat) (u : Value), l[j]? = some u → (w.alloc (.cells l.toArray t)).cell? ((⟨w.heap.size, 0, none⟩ : Addr).add j) = some u := by
  intro j u h
  rw [Addr.add_lit, Nat.zero_add]
  unfold World.cell?
  rw [heap_alloc_new]
  simpa using h

/-! ### Points: two cells each -/
def ptCells : List (Int × Int) → List Value
  | [] => []
  | p :: r => .int .u64 p.1 :: .int .u32 p.2 :: ptCells r
theorem ptCells_length : ∀ l : List (Int × Int), (ptCells l).length = l.length * 2
  | [] => rfl
  | p :: r => by simp [ptCells, ptCells_length r]; omega
theorem ptCells_append : ∀ a b : List (Int × Int), ptCells (a ++ b) = ptCells a ++ ptCells b
  | [], b => rfl
  | p :: r, b => by simp [ptCells, ptCells_append r b]
theorem ptCells_pos : ∀ (l : List (Int × Int)) (k : Nat), k < l.length → (ptCells l)[k * 2]? = some (.int .u64 (l.getD k (0, 0)).1)
  | [], _, h => by simp at h
  | p :: r, 0, _ => rfl
  | p :: r, k + 1, h => by
    have := ptCells_pos r k (by simpa using h)
    rw [show (k + 1) * 2 = k * 2 + 1 + 1 by omega]
    simpa [ptCells] using this
theorem ptCells_srv : ∀ (l : List (Int × Int)) (k : Nat), k < l.length → (ptCells l)[k * 2 + 1]? = some (.int .u32 (l.getD k (0, 0)).2)
  | [], _, h => by simp at h
  | p :: r, 0, _ => rfl
  | p :: r, k + 1, h => by
    have := ptCells_srv r k (by simpa using h)
    rw [show (k + 1) * 2 + 1 = k * 2 + 1 + 1 + 1 by omega]
    simpa [ptCells] using this

/-- A slice value of n elements, sz cells each, reads the cells. (Of an empty one nothing is said of its address.) -/
def Row (w : World) (a : Option Addr) (n sz : Nat) (cells : List Value) : Prop :=
  cells.length = n * sz ∧ (0 < n → ∃ b off, a = some ⟨b, off, none⟩ ∧ b < w.heap.size ∧ ∀ j, j < n * sz → w.cell? ⟨b, off + j, none⟩ = cells[j]?)

theorem Row.below {w w' : World} {a : Option Addr} {n sz : Nat} {cells : List Value} (h : Row w a n sz cells) (hb : Below w.heap.size w w') : Row w' a n sz cells :=
  ⟨h.1, fun hn => by
    obtain ⟨b, off, rfl, hlt, hc⟩ := h.2 hn
    exact ⟨b, off, rfl, Nat.lt_of_lt_of_le hlt hb.size, fun j hj => (hb.cell (p := ⟨b, off + j, none⟩) hlt).trans (hc j hj)⟩⟩

/-! ### A block of the call's own, with all its cells -/
def OB (w : World) (g : Nat) (t : TypeId) (cs : List Value) : Prop := w.heap[g]? = some (.cells cs.toArray t (0, 0))
section
variable {w w' : World} {g : Nat} {t : TypeId} {cs : List Value}
theorem OB.lt (h : OB w g t cs) : g < w.heap.size := (Array.getElem?_eq_some_iff.1 h).1
theorem OB.cell (h : OB w g t cs) (j : Nat) : w.cell? ⟨g, j, none⟩ = cs[j]? := by
  rw [cell_of_row w g j cs.toArray t (0, 0) h]; simp
theorem OB.frozen (h : OB w g t cs) (j : Nat) : w.frozen? ⟨g, j, none⟩ = false := frozen_of_row w g j cs.toArray t h
theorem OB.set (h : OB w g t cs) (j : Nat) (u : Value) : OB (w.setCell ⟨g, j, none⟩ u) g t (cs.set j u) := by
  have := heap_setCell_same w g j cs.toArray t u h
  unfold OB
  rw [this]; simp
theorem OB.other (h : OB w g t cs) {a : Addr} (hne : g ≠ a.block) (u : Value) : OB (w.setCell a u) g t cs := (Below.heap_setCell w a u g hne).trans h
theorem OB.alloc (h : OB w g t cs) (o : Obj) : OB (w.alloc o) g t cs := (Below.heap_alloc w o g h.lt).trans h
theorem OB.draws (h : OB w g t cs) (q : Nat) : OB (w.drewN q) g t cs := h
theorem OB.drew (h : OB w g t cs) : OB w.drew g t cs := h
theorem OB.below (h : OB w g t cs) {B : Nat} (hB : g < B) (hb : Below B w w') : OB w' g t cs := (hb.block g hB).trans h
theorem OB.grown (h : OB w g t cs) {r : Option Nat} (hr : some g ≠ r) (hg : w.grownBy w' r) : OB w' g t cs := (hg.block g h.lt hr).trans h
theorem OB.new (w : World) (t : TypeId) (cs : List Value) : OB (w.alloc (.cells cs.toArray t)) w.heap.size t cs := heap_alloc_new w _
theorem OB.row (h : OB w g t cs) {n sz : Nat} (hn : n * sz ≤ cs.length) : Row w (some ⟨g, 0, none⟩) n sz (cs.take (n * sz)) :=
  ⟨by simp; omega, fun _ => ⟨g, 0, rfl, h.lt, fun j hj => by rw [Nat.zero_add, h.cell, List.getElem?_take, if_pos hj]⟩⟩
theorem OB.row' (h : OB w g t cs) {n sz : Nat} (hn : cs.length = n * sz) : Row w (some ⟨g, 0, none⟩) n sz cs := by
  have := h.row (n := n) (sz := sz) (by omega)
  rwa [List.take_of_length_le (by omega)] at this
theorem OB.some (h : OB w g t cs) {j : Nat} (hj : j < cs.length) : ∃ u, w.cell? ⟨g, j, none⟩ = Option.some u := ⟨cs[j], by rw [h.cell, List.getElem?_eq_getElem hj]⟩
end
theorem own_full {w : World} {base e size g n : Nat} {xs : List Value} (h : w.ownsRow base e size (.slice (some ⟨g, 0, none⟩) n n) n xs) : OB w g e xs := by
  rcases h.2 with ⟨h', _⟩ | ⟨g', cap, cur, hv, hb, hg, hnc, hcm, hcs, ht⟩
  · cases h'
  · simp only [Value.slice.injEq, Option.some.injEq, Addr.mk.injEq] at hv
    obtain ⟨⟨rfl, _⟩, _, rfl⟩ := hv
    have : cur.toList = xs := by rw [← ht, List.take_of_length_le (by simp; omega)]
    subst this
    simpa [OB] using hg
theorem OB.owns {w : World} {g t base n sz c : Nat} {cs : List Value} (h : OB w g t cs) (hb : base ≤ g) (hn : n ≤ c) (hc : c ≤ maxLen) (hl : cs.length = c * sz) : w.ownsRow base t sz (.slice (Option.some ⟨g, 0, none⟩) n c) n (cs.take (n * sz)) :=
  ⟨by rw [List.length_take, hl]; exact Nat.min_eq_left (Nat.mul_le_mul_right _ hn), .inr ⟨g, c, cs.toArray, rfl, hb, h, hn, hc, by simpa using hl, by simp⟩⟩
theorem grown_below {w w' : World} {B : Nat} {r : Option Nat} (hg : w.grownBy w' r) (hB : B ≤ w.heap.size) (hr : ∀ k, r = some k → B ≤ k) : Below B w w' := (Below.refl _ _).grown hg hB hr

/-- Two cells written: one point stored. -/
theorem ptCells_set : ∀ (l : List (Int × Int)) (k : Nat) (p : Int × Int), k < l.length → ptCells (l.set k p) = ((ptCells l).set (k * 2) (.int .u64 p.1)).set (k * 2 + 1) (.int .u32 p.2)
  | [], _, _, h => by simp at h
  | q :: r, 0, p, _ => rfl
  | q :: r, k + 1, p, h => by
    have := ptCells_set r k p (by simpa using h)
    rw [show (k + 1) * 2 + 1 = k * 2 + 1 + 1 + 1 by omega, show (k + 1) * 2 = k * 2 + 1 + 1 by omega]
    simp [ptCells, this]
theorem ptCells_inj : ∀ a b : List (Int × Int), ptCells a = ptCells b → a = b
  | [], [], _ => rfl
  | [], _ :: _, h => by simp [ptCells] at h
  | _ :: _, [], h => by simp [ptCells] at h
  | p :: r, q :: s, h => by
    simp only [ptCells, List.cons.injEq, Value.int.injEq, true_and] at h
    rw [ptCells_inj r s h.2.2, Prod.ext h.1 h.2.1]
theorem ptCells_take : ∀ (l : List (Int × Int)) (k : Nat), (ptCells l).take (k * 2) = ptCells (l.take k)
  | l, 0 => by simp [ptCells]
  | [], k + 1 => by simp [ptCells]
  | p :: r, k + 1 => by
    rw [show (k + 1) * 2 = k * 2 + 1 + 1 by omega]
    simp [ptCells, ptCells_take r k]
theorem ptCells_drop : ∀ (l : List (Int × Int)) (k : Nat), (ptCells l).drop (k * 2) = ptCells (l.drop k)
  | l, 0 => by simp
  | [], k + 1 => by simp [ptCells]
  | p :: r, k + 1 => by
    rw [show (k + 1) * 2 = k * 2 + 1 + 1 by omega]
    simp [ptCells, ptCells_drop r k]
theorem OB.setPt {w : World} {g t : Nat} {M : List (Int × Int)} (h : OB w g t (ptCells M)) {k : Nat} (hk : k < M.length) (p s : Int) :
    OB ((w.setCell ⟨g, k * 2, none⟩ (.int .u64 p)).setCell ⟨g, k * 2 + 1, none⟩ (.int .u32 s)) g t (ptCells (M.set k (p, s))) := by
  rw [ptCells_set M k (p, s) hk]
  exact (h.set (k * 2) _).set (k * 2 + 1) _
theorem made_pts (n : Nat) : (madeCells #[Value.int .u64 0, Value.int .u32 0] (n * 2)).toList = ptCells (List.replicate n (0, 0)) := by
  apply List.ext_getElem?
  intro j
  by_cases hj : j < n * 2
  · have e : j = j / 2 * 2 ∨ j = j / 2 * 2 + 1 := by omega
    have hl : j / 2 < (List.replicate n ((0 : Int), (0 : Int))).length := by simp; omega
    have h1 : (madeCells #[Value.int .u64 0, Value.int .u32 0] (n * 2)).toList[j]? = some (#[Value.int .u64 0, Value.int .u32 0][j % 2]!) := by simp [madeCells, hj]
    rw [h1]
    rcases e with e | e
    · rw [show j % 2 = 0 by omega, e, ptCells_pos _ _ hl]; simp [List.getD_eq_getElem?_getD, List.getElem?_replicate]
      split <;> rfl
    · rw [show j % 2 = 1 by omega, e, ptCells_srv _ _ hl]; simp [List.getD_eq_getElem?_getD, List.getElem?_replicate]
      split <;> rfl
  · rw [List.getElem?_eq_none (by simp [madeCells]; omega), List.getElem?_eq_none (by rw [ptCells_length]; simp; omega)]

theorem info40 : (Trym.prog.info? 40).map (fun i => (i.zero, i.size, i.bytes)) = some (some (.agg #[.int .u64 0, .int .u32 0]), 2, 16) := by kernel_rfl
theorem info37 : (Trym.prog.info? 37).map (fun i => (i.zero, i.size, i.bytes)) = some (some (.agg #[.int .u64 0, .int .u32 0]), 2, 16) := by kernel_rfl
theorem info4 : (Trym.prog.info? 4).map (fun i => (i.zero, i.size, i.bytes)) = some (some (.bool false), 1, 1) := by kernel_rfl
end Go.Proofs.Qxb6601991aMods
