/-
  Members, servers, names: how they lie in memory; how they are opened.
-/
import Derived.Test.Qxb6601991aModsOpen
namespace Go.Proofs.Qxb6601991aMods
open Go.ChangeShapes Go.WideShapes Go.ChangeAt Go.RowKit Go.Deep
set_option linter.unusedVariables false

/-- name, weight, number -/
def memF (m : ByteArray × Int × Int) : List Value := [.string m.1, .int .i64 m.2.1, .int .u32 m.2.2]
/-- name, weight -/
def srvF (c : ByteArray × Int) : List Value := [.string c.1, .int .i64 c.2]
def strF (s : ByteArray) : List Value := [.string s]
/-- weight, number -/
def seatF (s : Int × Int) : List Value := [.int .i64 s.1, .int .u32 s.2]

theorem Row.at {α : Type} {f : α → List Value} {w : World} {a : Option Addr} {n sz : Nat} {L : List α} (h : Row w a n sz (L.flatMap f)) (hf : ∀ x, (f x).length = sz) (hsz : 0 < sz) {k : Nat} (hk : k < n) :
    ∃ b off x, a = some ⟨b, off, none⟩ ∧ b < w.heap.size ∧ L[k]? = some x ∧ ∀ r, r < sz → w.cell? ⟨b, off + (k * sz + r), none⟩ = (f x)[r]? := by
  obtain ⟨b, off, rfl, hlt, hc⟩ := h.2 (by omega)
  have hl := h.1
  rw [flat_len f sz L (fun x _ => hf x)] at hl
  have hn : L.length = n := Nat.eq_of_mul_eq_mul_right hsz hl
  refine ⟨b, off, L[k], rfl, hlt, List.getElem?_eq_getElem (by omega), fun r hr => ?_⟩
  have hj : k * sz + r < n * sz := by
    have : (k + 1) * sz ≤ n * sz := Nat.mul_le_mul_right _ hk
    rw [Nat.add_mul] at this; omega
  rw [hc _ hj, flat_get f sz L (fun x _ => hf x) k r hr, List.getElem?_eq_getElem (show k < L.length by omega)]
  rfl
theorem Row.llen {α : Type} {f : α → List Value} {w : World} {a : Option Addr} {n sz : Nat} {L : List α} (h : Row w a n sz (L.flatMap f)) (hf : ∀ x, (f x).length = sz) (hsz : 0 < sz) : L.length = n := by
  have hl := h.1
  rw [flat_len f sz L (fun x _ => hf x)] at hl
  exact Nat.eq_of_mul_eq_mul_right hsz hl
theorem Row.mem {w : World} {a : Option Addr} {n : Nat} {L : List (ByteArray × Int × Int)} (h : Row w a n 3 (L.flatMap memF)) {k : Nat} (hk : k < n) :
    ∃ b off s wt no, a = some ⟨b, off, none⟩ ∧ b < w.heap.size ∧ L[k]? = some (s, wt, no) ∧ w.cell? ⟨b, off + k * 3, none⟩ = some (.string s) ∧ w.cell? ⟨b, off + k * 3 + 1, none⟩ = some (.int .i64 wt) ∧ w.cell? ⟨b, off + k * 3 + 2, none⟩ = some (.int .u32 no) := by
  obtain ⟨b, off, ⟨s, wt, no⟩, rfl, hb, hx, hc⟩ := h.at (fun _ => rfl) (by omega) hk
  exact ⟨b, off, s, wt, no, rfl, hb, hx, by simpa [memF] using hc 0 (by omega), by simpa [memF, Nat.add_assoc] using hc 1 (by omega), by simpa [memF, Nat.add_assoc] using hc 2 (by omega)⟩
theorem Row.srv {w : World} {a : Option Addr} {n : Nat} {L : List (ByteArray × Int)} (h : Row w a n 2 (L.flatMap srvF)) {k : Nat} (hk : k < n) :
    ∃ b off s wt, a = some ⟨b, off, none⟩ ∧ b < w.heap.size ∧ L[k]? = some (s, wt) ∧ w.cell? ⟨b, off + k * 2, none⟩ = some (.string s) ∧ w.cell? ⟨b, off + k * 2 + 1, none⟩ = some (.int .i64 wt) := by
  obtain ⟨b, off, ⟨s, wt⟩, rfl, hb, hx, hc⟩ := h.at (fun _ => rfl) (by omega) hk
  exact ⟨b, off, s, wt, rfl, hb, hx, by simpa [srvF] using hc 0 (by omega), by simpa [srvF, Nat.add_assoc] using hc 1 (by omega)⟩
theorem Row.str {w : World} {a : Option Addr} {n : Nat} {L : List ByteArray} (h : Row w a n 1 (L.flatMap strF)) {k : Nat} (hk : k < n) :
    ∃ b off s, a = some ⟨b, off, none⟩ ∧ b < w.heap.size ∧ L[k]? = some s ∧ w.cell? ⟨b, off + k, none⟩ = some (.string s) := by
  obtain ⟨b, off, s, rfl, hb, hx, hc⟩ := h.at (fun _ => rfl) (by omega) hk
  exact ⟨b, off, s, rfl, hb, hx, by simpa [strF] using hc 0 (by omega)⟩
theorem Row.seat {w : World} {a : Option Addr} {n : Nat} {L : List (Int × Int)} (h : Row w a n 2 (L.flatMap seatF)) {k : Nat} (hk : k < n) :
    ∃ b off wt no, a = some ⟨b, off, none⟩ ∧ b < w.heap.size ∧ L[k]? = some (wt, no) ∧ w.cell? ⟨b, off + k * 2, none⟩ = some (.int .i64 wt) ∧ w.cell? ⟨b, off + k * 2 + 1, none⟩ = some (.int .u32 no) := by
  obtain ⟨b, off, ⟨wt, no⟩, rfl, hb, hx, hc⟩ := h.at (fun _ => rfl) (by omega) hk
  exact ⟨b, off, wt, no, rfl, hb, hx, by simpa [seatF] using hc 0 (by omega), by simpa [seatF, Nat.add_assoc] using hc 1 (by omega)⟩

theorem str_flat : ∀ L : List ByteArray, L.flatMap strF = L.map Value.string
  | [] => rfl
  | p :: r => by rw [List.flatMap_cons, str_flat r]; rfl

theorem cells63 : Trym.prog.cellsOf 63 = 3 := by kernel_rfl
theorem cells67 : Trym.prog.cellsOf 67 = 2 := by kernel_rfl
theorem cells9 : Trym.prog.cellsOf 9 = 1 := by kernel_rfl
theorem cells3 : Trym.prog.cellsOf 3 = 1 := by kernel_rfl

theorem wf_i64 {x : Int} (h : (Lit.int .i64 x).wf = true) : -9223372036854775808 ≤ x ∧ x ≤ 9223372036854775807 := by
  simp [Lit.wf, IntKind.min, IntKind.max, IntKind.signed, IntKind.bits] at h
  omega

theorem trod_struct3 {H : Type} {enc : TypeId × Value → H} {P : Program} {w : World} {base : Nat} {spare : Nat → Bool} {held : Bool} {t : TypeId} {f0 f1 f2 : Field} {fuel : Nat} {cs : List Value} {x : DataW H × List MemPlace} (ht : P.underlying t = some (.struct #[f0, f1, f2])) (h : DataW.trod enc P w base spare held fuel t cs = some x) :
    ∃ y0 y1 y2 n, cs.length = P.cellsOf t ∧ DataW.trod enc P w base spare held n f0.type ((cs.drop f0.offset).take (P.cellsOf f0.type)) = some y0 ∧
      DataW.trod enc P w base spare held n f1.type ((cs.drop f1.offset).take (P.cellsOf f1.type)) = some y1 ∧ DataW.trod enc P w base spare held n f2.type ((cs.drop f2.offset).take (P.cellsOf f2.type)) = some y2 := by
  obtain ⟨xs, n, _, rfl, hl, hlen, hf⟩ := DataW.trod_struct ht h
  match xs, hlen with
  | [y0, y1, y2], _ => exact ⟨y0, y1, y2, n, hl, by simpa using hf 0 f0 rfl, by simpa using hf 1 f1 rfl, by simpa using hf 2 f2 rfl⟩

/-- A member: its number a uint32. -/
def goodMem (m : ByteArray × Int × Int) : Prop := 0 ≤ m.2.2 ∧ m.2.2 ≤ 4294967295

theorem open_mems {H : Type} {enc : TypeId × Value → H} {w : World} {fuel : Nat} {a : Option Addr} {n c : Nat} {x : DataW H × List MemPlace} (h : DataW.trod enc Trym.prog w 0 (fun _ => true) true fuel 45 [.slice a n c] = some x) :
    ∃ L : List (ByteArray × Int × Int), Row w a n 3 (L.flatMap memF) ∧ ∀ x ∈ L, goodMem x := by
  rcases open_slice Trym.underlying45 h with ⟨hcs, _⟩ | ⟨ad, len, cap, m, k, D, Pl, hcs, _, hl, hm, hmm, _, hel⟩
  · simp at hcs
    obtain ⟨rfl, rfl, rfl⟩ := hcs
    exact ⟨[], ⟨rfl, fun h => absurd h (by omega)⟩, fun x hx => absurd hx (by simp)⟩
  · simp at hcs
    obtain ⟨rfl, rfl, rfl⟩ := hcs
    simp only [if_true] at hmm
    obtain ⟨L, _, hg, hr⟩ := row_of_elems memF 3 (by omega) goodMem w ad n (fun _ => rfl) (fun i hi => by
      obtain ⟨cs', h1, h2⟩ := hel i (by omega)
      rw [cells63] at h1
      obtain ⟨y0, y1, y2, q, hlen, hy0, hy1, hy2⟩ := trod_struct3 Trym.underlying63 h2
      rw [cells63] at hlen
      simp only [cells9, cells3, cells35] at hy0 hy1 hy2
      obtain ⟨s, e0, _, _⟩ := DataW.trod_string Trym.underlying9 hy0
      obtain ⟨wt, e1, _, w1⟩ := DataW.trod_int Trym.underlying3 hy1
      obtain ⟨no, e2, _, w2⟩ := DataW.trod_int Trym.underlying35 hy2
      refine ⟨(s, wt, no), ⟨(wf_u32 w2).1, (wf_u32 w2).2⟩, ?_⟩
      rw [h1]
      match cs', hlen, e0, e1, e2 with
      | [u, v, t], _, e0, e1, e2 =>
        simp at e0 e1 e2
        subst e0 e1 e2
        rfl)
    exact ⟨L, hr, hg⟩

theorem open_srvs {H : Type} {enc : TypeId × Value → H} {w : World} {fuel : Nat} {a : Option Addr} {n c : Nat} {x : DataW H × List MemPlace} (h : DataW.trod enc Trym.prog w 0 (fun _ => true) true fuel 46 [.slice a n c] = some x) :
    ∃ L : List (ByteArray × Int), Row w a n 2 (L.flatMap srvF) := by
  rcases open_slice Trym.underlying46 h with ⟨hcs, _⟩ | ⟨ad, len, cap, m, k, D, Pl, hcs, _, hl, hm, hmm, _, hel⟩
  · simp at hcs
    obtain ⟨rfl, rfl, rfl⟩ := hcs
    exact ⟨[], rfl, fun h => absurd h (by omega)⟩
  · simp at hcs
    obtain ⟨rfl, rfl, rfl⟩ := hcs
    simp only [if_true] at hmm
    obtain ⟨L, _, hg, hr⟩ := row_of_elems srvF 2 (by omega) (fun _ => True) w ad n (fun _ => rfl) (fun i hi => by
      obtain ⟨cs', h1, h2⟩ := hel i (by omega)
      rw [cells67] at h1
      obtain ⟨y0, y1, q, _, hlen, hy0, hy1⟩ := trod_struct2 Trym.underlying67 h2
      rw [cells67] at hlen
      simp only [cells9, cells3] at hy0 hy1
      obtain ⟨s, e0, _, _⟩ := DataW.trod_string Trym.underlying9 hy0
      obtain ⟨wt, e1, _, w1⟩ := DataW.trod_int Trym.underlying3 hy1
      refine ⟨(s, wt), trivial, ?_⟩
      rw [h1]
      match cs', hlen, e0, e1 with
      | [u, v], _, e0, e1 =>
        simp at e0 e1
        subst e0 e1
        rfl)
    exact ⟨L, hr⟩

theorem open_strs {H : Type} {enc : TypeId × Value → H} {w : World} {fuel : Nat} {a : Option Addr} {n c : Nat} {x : DataW H × List MemPlace} (h : DataW.trod enc Trym.prog w 0 (fun _ => true) true fuel 47 [.slice a n c] = some x) :
    ∃ L : List ByteArray, Row w a n 1 (L.flatMap strF) ∧ (a = none → n = 0 ∧ c = 0) := by
  rcases open_slice Trym.underlying47 h with ⟨hcs, _⟩ | ⟨ad, len, cap, m, k, D, Pl, hcs, _, hl, hm, hmm, _, hel⟩
  · simp at hcs
    obtain ⟨rfl, rfl, rfl⟩ := hcs
    exact ⟨[], ⟨rfl, fun h => absurd h (by omega)⟩, fun _ => ⟨rfl, rfl⟩⟩
  · simp at hcs
    obtain ⟨rfl, rfl, rfl⟩ := hcs
    simp only [if_true] at hmm
    obtain ⟨L, _, hg, hr⟩ := row_of_elems strF 1 (by omega) (fun _ => True) w ad n (fun _ => rfl) (fun i hi => by
      obtain ⟨cs', h1, h2⟩ := hel i (by omega)
      rw [cells9] at h1
      obtain ⟨s, e0, _⟩ := DataW.trod_string Trym.underlying9 h2
      exact ⟨s, trivial, by rw [h1, e0]; rfl⟩)
    exact ⟨L, hr, fun h => by cases h⟩
end Go.Proofs.Qxb6601991aMods
