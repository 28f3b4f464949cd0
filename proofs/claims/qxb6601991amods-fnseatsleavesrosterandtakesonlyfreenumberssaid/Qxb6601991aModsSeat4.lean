/-
  The plain function that seats computes; slices.Clone (60).
-/
import Derived.Test.Qxb6601991aModsSeat3
namespace Go.Proofs.Qxb6601991aMods
open Go.ChangeShapes Go.WideShapes Go.ChangeAt Go.RowKit
set_option linter.unusedVariables false

/-! ### The plain function -/
def noName : ByteArray := ⟨#[]⟩
/-- The lowest index whose name is empty; one past the end where none is. -/
def firstFree (N : List ByteArray) : Nat := N.findIdx (fun s => decide (s = noName))
def place (N : List ByteArray) (j : Nat) (c : ByteArray) : List ByteArray := if j < N.length then N.set j c else N ++ [c]
def seatStep (E : List (ByteArray × Int × Int)) (N : List ByteArray) (c : ByteArray) : List ByteArray × (Int × Int) :=
  match look E c with
  | some v => (N, v)
  | none => (place N (firstFree N) c, (0, (firstFree N : Int)))
def namesAfter (E : List (ByteArray × Int × Int)) (N : List ByteArray) (C : List (ByteArray × Int)) : List ByteArray := C.foldl (fun N c => (seatStep E N c.1).1) N

theorem firstFree_eq {N : List ByteArray} {f : Nat} (hf : f ≤ N.length) (h1 : ∀ j s, j < f → N[j]? = some s → s ≠ noName) (h2 : ∀ s, N[f]? = some s → s = noName) : firstFree N = f := by
  unfold firstFree
  by_cases hl : f < N.length
  · have hx : N[f]? = some N[f] := List.getElem?_eq_getElem hl
    refine (List.findIdx_eq hl).2 ⟨by simpa using h2 _ hx, fun j hj => ?_⟩
    have := h1 j N[j] hj (List.getElem?_eq_getElem (by omega))
    simp [this]
  · have e : f = N.length := by omega
    subst e
    refine List.findIdx_eq_length.2 fun s hs => ?_
    obtain ⟨j, hj⟩ := List.getElem?_of_mem hs
    have := h1 j s (List.getElem?_eq_some_iff.1 hj).1 hj
    simp [this]
theorem firstFree_le (N : List ByteArray) : firstFree N ≤ N.length := List.findIdx_le_length
theorem place_len (N : List ByteArray) (j : Nat) (c : ByteArray) : N.length ≤ (place N j c).length ∧ (place N j c).length ≤ N.length + 1 := by
  unfold place; split
  · simp
  · simp
theorem step_len (E : List (ByteArray × Int × Int)) (N : List ByteArray) (c : ByteArray) : N.length ≤ (seatStep E N c).1.length ∧ (seatStep E N c).1.length ≤ N.length + 1 := by
  unfold seatStep; split
  · simp
  · exact place_len _ _ _
theorem after_snoc {E : List (ByteArray × Int × Int)} {N : List ByteArray} {C : List (ByteArray × Int)} {k : Nat} {c : ByteArray × Int} (hx : C[k]? = some c) : namesAfter E N (C.take (k + 1)) = (seatStep E (namesAfter E N (C.take k)) c.1).1 := by
  unfold namesAfter
  rw [take_snoc' hx, List.foldl_append]; rfl
theorem after_len (E : List (ByteArray × Int × Int)) (N : List ByteArray) : ∀ (C : List (ByteArray × Int)), N.length ≤ (namesAfter E N C).length ∧ (namesAfter E N C).length ≤ N.length + C.length := by
  intro C
  induction C generalizing N with
  | nil => simp [namesAfter]
  | cons c r ih =>
    have h := ih (seatStep E N c.1).1
    have h' := step_len E N c.1
    simp only [namesAfter, List.foldl_cons, List.length_cons] at h ⊢
    omega

/-! ### slices.Clone -/
theorem str_one (L : List ByteArray) : ∀ u ∈ L.flatMap strF, u.oneCell' = true := by
  intro u hu
  rw [str_flat] at hu
  simp at hu
  obtain ⟨s, _, rfl⟩ := hu
  rfl
theorem row_cells {w : World} {x : Addr} {n : Nat} {L : List ByteArray} (h : Row w (some x) n 1 (L.flatMap strF)) : ∀ (j : Nat) (u : Value), (L.flatMap strF)[j]? = some u → w.cell? (x.add j) = some u := by
  intro j u hu
  have hj := (List.getElem?_eq_some_iff.1 hu).1
  have hl := h.1
  obtain ⟨b, off, hx, _, hc⟩ := h.2 (by omega)
  cases hx
  rw [Addr.add_lit, hc j (by omega), hu]

theorem sclone_nil (w : World) : Calls Trym.prog 60 #[.slice none 0 0] w fun e w' => e = .returned (.slice none 0 0) ∧ w' = w := by
  have hq := eql_nil47 none 0 0
  go_enter Trym.func60, Trym.ntmps60
  go_wp2
  go_ret
  exact ⟨rfl, rfl⟩

set_option maxHeartbeats 1000000 in
theorem sclone_some (x : Addr) (n c : Nat) (L : List ByteArray) (w : World) (hr : Row w (some x) n 1 (L.flatMap strF)) (hn : n ≤ 1048576) :
    Calls Trym.prog 60 #[.slice (some x) n c] w fun e w' => ∃ v, e = .returned v ∧ w'.ownsRow w.heap.size 9 1 v n (L.flatMap strF) ∧ Below w.heap.size w w' := by
  obtain ⟨i0, hi, hz0, hz1, hz2⟩ := info_parts info9
  have hq := eql_nil47 (some x) n c
  have HR := hide hr
  clear hr
  go_enter Trym.func60, Trym.ntmps60
  go_wp2_with (at_builtin; refine wpList_append_own _ rfl _ _ 47 rfl w.heap.size 9 i0 (.string ⟨#[]⟩) 1 16 Trym.underlying47 hi hz0 hz1 hz2 rfl (by decide) _ 0 [] rfl (World.ownsRow_made w #[] 0 (Nat.le_refl _) (Nat.zero_le _) rfl) x n c (L.flatMap strF) rfl ?c1 ?c2 (str_one L) (by unfold maxLen; omega) (by omega) (by simp) ?_)
  case c1 => rw [HR.out.1]
  case c2 =>
    intro j u hu
    have h1 := row_cells HR.out j u hu
    exact (World.grownBy_alloc w _ none).cell h1 (by simp)
  intro v' w' h1 h2 _
  have hb : Below w.heap.size w w' := ((Below.refl _ _).alloc (Nat.le_refl _) _).grown h2 (by simp) (fun k hk => by cases hk; exact Nat.le_refl _)
  clear h2
  go_wp2
  go_ret
  exact ⟨_, rfl, h1, hb⟩

/-- The clone of a slice of names, whatever it is. -/
theorem sclone_any (a : Option Addr) (n c : Nat) (L : List ByteArray) (w : World) (hr : Row w a n 1 (L.flatMap strF)) (ha : a = none → n = 0 ∧ c = 0) (hn : n ≤ 1048576) :
    Calls Trym.prog 60 #[.slice a n c] w fun e w' => ∃ v, e = .returned v ∧ w'.ownsRow w.heap.size 9 1 v n (L.flatMap strF) ∧ Below w.heap.size w w' := by
  cases a with
  | none =>
    obtain ⟨rfl, rfl⟩ := ha rfl
    have hl : L = [] := List.eq_nil_of_length_eq_zero (hr.llen (fun _ => rfl) (by omega))
    subst hl
    refine (sclone_nil w).mono ?_
    rintro e w' ⟨rfl, rfl⟩
    exact ⟨_, rfl, World.ownsRow_nil _ _ _ _, Below.refl _ _⟩
  | some x => exact sclone_some x n c L w hr hn
end Go.Proofs.Qxb6601991aMods
