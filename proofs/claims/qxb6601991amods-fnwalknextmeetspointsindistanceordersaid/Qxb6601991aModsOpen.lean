/-
  How the laws' arguments read: slices of points, of bools.
-/
import Derived.Test.Qxb6601991aModsStay1
import Derived.Deep.Slices
import Derived.ChangeOld
namespace Go.Proofs.Qxb6601991aMods
open Go.ChangeShapes Go.WideShapes Go.ChangeAt Go.RowKit Go.Deep
set_option linter.unusedVariables false

theorem flat_get {α : Type} (f : α → List Value) (sz : Nat) : ∀ (L : List α), (∀ x ∈ L, (f x).length = sz) → ∀ (i r : Nat), r < sz → (L.flatMap f)[i * sz + r]? = (L[i]?).bind (fun x => (f x)[r]?)
  | [], _, i, r, _ => by simp
  | x :: l, h, 0, r, hr => by
    have hx := h x (by simp)
    rw [List.flatMap_cons, Nat.zero_mul, Nat.zero_add, List.getElem?_append_left (by omega)]
    simp
  | x :: l, h, i + 1, r, hr => by
    have hx := h x (by simp)
    have ih := flat_get f sz l (fun y hy => h y (by simp [hy])) i r hr
    rw [List.flatMap_cons, List.getElem?_append_right (by rw [hx, Nat.add_mul]; omega), hx, show (i + 1) * sz + r - sz = i * sz + r by rw [Nat.add_mul]; omega, ih]
    simp
theorem flat_len {α : Type} (f : α → List Value) (sz : Nat) : ∀ (L : List α), (∀ x ∈ L, (f x).length = sz) → (L.flatMap f).length = L.length * sz
  | [], _ => by simp
  | x :: l, h => by
    rw [List.flatMap_cons, List.length_append, h x (by simp), flat_len f sz l (fun y hy => h y (by simp [hy])), List.length_cons, Nat.add_mul]; omega

theorem row_of_elems {α : Type} (f : α → List Value) (sz : Nat) (hsz : 0 < sz) (good : α → Prop) (w : World) (a : Addr) (len : Nat) (hf : ∀ x, (f x).length = sz)
    (h : ∀ i, i < len → ∃ x, good x ∧ w.cells? 0 (a.add (i * sz)) sz = some (f x)) : ∃ L : List α, L.length = len ∧ (∀ x ∈ L, good x) ∧ Row w (some a) len sz (L.flatMap f) := by
  by_cases h0 : len = 0
  · subst h0
    exact ⟨[], rfl, by simp, by simp, fun hp => absurd hp (by omega)⟩
  obtain ⟨x0, _⟩ := h 0 (by omega)
  have hc : ∀ i, ∃ x, i < len → good x ∧ w.cells? 0 (a.add (i * sz)) sz = some (f x) := fun i => by
    by_cases hi : i < len
    · obtain ⟨x, hx⟩ := h i hi
      exact ⟨x, fun _ => hx⟩
    · exact ⟨x0, fun h => absurd h hi⟩
  obtain ⟨g, hg⟩ := Classical.axiomOfChoice hc
  have hl : ((List.range len).map g).length = len := by simp
  refine ⟨(List.range len).map g, hl, fun x hx => ?_, ?_, fun _ => ?_⟩
  · simp at hx
    obtain ⟨i, hi, rfl⟩ := hx
    exact (hg i hi).1
  · rw [flat_len f sz _ (fun x _ => hf x), hl]
  · obtain ⟨_, _, hc0⟩ := World.cells?_some (hg 0 (by omega)).2
    have hz := hc0 0 hsz
    have hs : a.spot = none := by
      rw [Nat.zero_mul] at hz
      have hk : (f (g 0))[0]? = some (f (g 0))[0] := List.getElem?_eq_getElem (by rw [hf]; exact hsz)
      rw [hk] at hz
      simpa [Addr.add] using World.cell?_spot hz
    obtain ⟨b, off, spot⟩ := a
    simp only at hs
    subst hs
    refine ⟨b, off, rfl, ?_, fun j hj => ?_⟩
    · rw [Nat.zero_mul] at hz
      have hk : (f (g 0))[0]? = some (f (g 0))[0] := List.getElem?_eq_getElem (by rw [hf]; exact hsz)
      rw [hk] at hz
      have := World.block_lt_of_cell? w _ hz
      simpa [Addr.add] using this
    · have hi : j / sz < len := by
        rw [Nat.div_lt_iff_lt_mul hsz]; exact hj
      have hr : j % sz < sz := Nat.mod_lt _ hsz
      have hjj : j = j / sz * sz + j % sz := by rw [Nat.mul_comm]; exact (Nat.div_add_mod j sz).symm
      obtain ⟨_, _, hcj⟩ := World.cells?_some (hg (j / sz) hi).2
      have := hcj (j % sz) hr
      rw [Addr.add_lit, Addr.add_lit] at this
      rw [hjj, flat_get f sz _ (fun x _ => hf x) _ _ hr]
      rw [Nat.add_assoc] at this
      rw [this]
      simp [hi]

def ptF (p : Int × Int) : List Value := [.int .u64 p.1, .int .u32 p.2]
theorem pt_flat : ∀ L : List (Int × Int), L.flatMap ptF = ptCells L
  | [] => rfl
  | p :: r => by rw [List.flatMap_cons, pt_flat r]; rfl
def goodPt (p : Int × Int) : Prop := 0 ≤ p.1 ∧ p.1 ≤ 18446744073709551615 ∧ 0 ≤ p.2 ∧ p.2 ≤ 4294967295
theorem wf_of_good {L : List (Int × Int)} (h : ∀ x ∈ L, goodPt x) : WfPts L := fun k hk => by
  have := h (L.getD k (0, 0)) (by rw [List.getD_eq_getElem?_getD, List.getElem?_eq_getElem hk]; simp)
  exact this

theorem cells22 : Trym.prog.cellsOf 40 = 2 := by kernel_rfl
theorem cells34 : Trym.prog.cellsOf 34 = 1 := by kernel_rfl
theorem cells35 : Trym.prog.cellsOf 35 = 1 := by kernel_rfl
theorem cells4 : Trym.prog.cellsOf 4 = 1 := by kernel_rfl

theorem wf_u64 {x : Int} (h : (Lit.int .u64 x).wf = true) : 0 ≤ x ∧ x ≤ 18446744073709551615 := by
  simp [Lit.wf, IntKind.min, IntKind.max, IntKind.signed, IntKind.bits] at h
  omega
theorem wf_u32 {x : Int} (h : (Lit.int .u32 x).wf = true) : 0 ≤ x ∧ x ≤ 4294967295 := by
  simp [Lit.wf, IntKind.min, IntKind.max, IntKind.signed, IntKind.bits] at h
  omega

theorem open_pts {H : Type} {enc : TypeId × Value → H} {w : World} {fuel : Nat} {a : Option Addr} {n c : Nat} {x : DataW H × List MemPlace} (h : DataW.trod enc Trym.prog w 0 (fun _ => true) true fuel 22 [.slice a n c] = some x) :
    ∃ L, Row w a n 2 (ptCells L) ∧ WfPts L ∧ (a = none → n = 0 ∧ c = 0) := by
  rcases open_slice Trym.underlying22 h with ⟨hcs, _⟩ | ⟨ad, len, cap, m, k, D, Pl, hcs, _, hl, hm, hmm, _, hel⟩
  · simp at hcs
    obtain ⟨rfl, rfl, rfl⟩ := hcs
    exact ⟨[], ⟨rfl, fun h => absurd h (by omega)⟩, fun k hk => absurd hk (by simp), fun _ => ⟨rfl, rfl⟩⟩
  · simp at hcs
    obtain ⟨rfl, rfl, rfl⟩ := hcs
    simp only [if_true] at hmm
    obtain ⟨L, _, hg, hr⟩ := row_of_elems ptF 2 (by omega) goodPt w ad n (fun _ => rfl) (fun i hi => by
      obtain ⟨cs', h1, h2⟩ := hel i (by omega)
      rw [cells22] at h1
      obtain ⟨y0, y1, q, _, hlen, hy0, hy1⟩ := trod_struct2 Trym.underlying40 h2
      rw [cells22] at hlen
      simp only [cells34, cells35] at hy0 hy1
      obtain ⟨p, e0, _, w0⟩ := DataW.trod_int Trym.underlying34 hy0
      obtain ⟨s, e1, _, w1⟩ := DataW.trod_int Trym.underlying35 hy1
      refine ⟨(p, s), ⟨(wf_u64 w0).1, (wf_u64 w0).2, (wf_u32 w1).1, (wf_u32 w1).2⟩, ?_⟩
      rw [h1]
      match cs', hlen, e0, e1 with
      | [u, v], _, e0, e1 =>
        simp at e0 e1
        subst e0 e1
        rfl)
    rw [pt_flat] at hr
    exact ⟨L, hr, wf_of_good hg, fun h => by cases h⟩

theorem bool_flat : ∀ L : List Bool, L.flatMap (fun b => [Value.bool b]) = L.map Value.bool
  | [] => rfl
  | p :: r => by rw [List.flatMap_cons, bool_flat r]; rfl

theorem open_bools {H : Type} {enc : TypeId × Value → H} {w : World} {fuel : Nat} {a : Option Addr} {n c : Nat} {x : DataW H × List MemPlace} (h : DataW.trod enc Trym.prog w 0 (fun _ => true) true fuel 23 [.slice a n c] = some x) :
    ∃ L : List Bool, Row w a n 1 (L.map Value.bool) ∧ (a = none → n = 0 ∧ c = 0) := by
  rcases open_slice Trym.underlying23 h with ⟨hcs, _⟩ | ⟨ad, len, cap, m, k, D, Pl, hcs, _, hl, hm, hmm, _, hel⟩
  · simp at hcs
    obtain ⟨rfl, rfl, rfl⟩ := hcs
    exact ⟨[], ⟨rfl, fun h => absurd h (by omega)⟩, fun _ => ⟨rfl, rfl⟩⟩
  · simp at hcs
    obtain ⟨rfl, rfl, rfl⟩ := hcs
    simp only [if_true] at hmm
    obtain ⟨L, _, hg, hr⟩ := row_of_elems (fun b => [Value.bool b]) 1 (by omega) (fun _ => True) w ad n (fun _ => rfl) (fun i hi => by
      obtain ⟨cs', h1, h2⟩ := hel i (by omega)
      rw [cells4] at h1
      obtain ⟨b, e0, _⟩ := DataW.trod_bool Trym.underlying4 h2
      exact ⟨b, trivial, by rw [h1, e0]⟩)
    rw [bool_flat] at hr
    exact ⟨L, hr, fun h => by cases h⟩
end Go.Proofs.Qxb6601991aMods
