/-
  zzNewWalk (43): the plain parts.
-/
import Derived.Test.Qxb6601991aModsWalk9
import Derived.Test.Qxb6601991aModsSeat3
import Derived.Test.Qxb6601991aModsStay2
namespace Go.Proofs.Qxb6601991aMods
open Go.ChangeShapes Go.WideShapes Go.ChangeAt Go.RowKit
set_option linter.unusedVariables false

theorem info98 : (Trym.prog.info? 98).map (fun i => (i.zero, i.size, i.bytes)) = some (some (.agg #[.slice none 0 0, .slice none 0 0]), 2, 48) := by kernel_rfl

theorem wpList_make_ob2 {P : Program} (w : World) {ops : Array Oper} {rest : List Oper} {o : Oper} {a : Act} {Q : Exit → Act → World → Prop}
    (hg : o.guard = none) (l c : Operand) (t : TypeId) (hop : o.op = Op.makeSlice t l c)
    (e : TypeId) (i : TypeInfo) (z : Value) (size : Nat) (h1 : P.underlying t = some (.slice e)) (h2 : P.info? e = some i) (h3 : i.zero = some z) (h4 : i.size = size)
    (kl kc : IntKind) (L C : Int) (n m : Nat) (hl : a.eval l = .int kl L) (hc : a.eval c = .int kc C) (hL : L = (n : Int)) (hC : C = (m : Int)) (hnm : n ≤ m) (b2 : i.bytes * m ≤ 281474976710656) (b3 : m ≤ 1048576)
    (hK : ∀ w', OB w' w.heap.size e (madeCells z.cells (m * size)).toList → Below w.heap.size w w' → wpList P ops Q rest (a.put o.dst (.slice (some ⟨w.heap.size, 0, none⟩) n m)) w') :
    wpList P ops Q (o :: rest) a w := by
  refine wpList_plain hg fun K hK' => ?_
  subst hL
  subst hC
  subst h4
  have hb' : (i.bytes : Int) * (m : Int) ≤ 281474976710656 := by
    have h : ((i.bytes * m : Nat) : Int) ≤ 281474976710656 := by omega
    rwa [Int.natCast_mul] at h
  have hr := run_make (P := P) w t e i z h1 h2 h3 kl kc n m (by omega) (by omega) hb' (by omega)
  simp only [Int.toNat_natCast] at hr
  unfold Oper.wp
  simp [execOp, hop, hl, hc, hr, Result.andThen]
  refine hK' _ _ (hK _ ?_ ((Below.refl _ _).alloc (Nat.le_refl _) _))
  have := OB.new w e (madeCells z.cells (m * i.size)).toList
  simpa using this

/-- The first kk pages are laid. -/
def PgInv (wr : World) (g1 : Nat) (Z : List Nat) (L : List (Int × Int)) (C : List Value) (kk : Nat) : Prop :=
  C.length = Z.length * 2 ∧ ∀ (p z : Nat), p < kk → Z[p]? = some z → ∃ gk, C[p * 2 + 1]? = some (.slice (some ⟨gk, 0, none⟩) z z) ∧ g1 < gk ∧ OB wr gk 37 (ptCells ((L.drop (offOf Z p)).take z))
theorem PgInv.start (wr : World) (g1 : Nat) (Z : List Nat) (L : List (Int × Int)) (C : List Value) (h : C.length = Z.length * 2) : PgInv wr g1 Z L C 0 := ⟨h, fun p z hp => by omega⟩
theorem pg_round {w wr wx : World} {g1 gk kk z : Nat} {Z : List Nat} {L : List (Int × Int)} {C : List Value} (ho : OB wr g1 98 C) (hb : Below wr.heap.size wr wx) (hp : PgInv wr g1 Z L C kk) (hz : Z[kk]? = some z) (hseg : OB wx gk 37 (ptCells ((L.drop (offOf Z kk)).take z)))
    (hgk : wr.heap.size ≤ gk) (hB : Below w.heap.size w wr) (hg1 : w.heap.size ≤ g1) (o : Obj) (v : Value) :
    OB (((wx.setCell ⟨g1, kk * 2, none⟩ v).setCell ⟨g1, kk * 2 + 1, none⟩ (.slice (some ⟨gk, 0, none⟩) z z)).alloc o) g1 98 ((C.set (kk * 2) v).set (kk * 2 + 1) (.slice (some ⟨gk, 0, none⟩) z z)) ∧
    PgInv (((wx.setCell ⟨g1, kk * 2, none⟩ v).setCell ⟨g1, kk * 2 + 1, none⟩ (.slice (some ⟨gk, 0, none⟩) z z)).alloc o) g1 Z L ((C.set (kk * 2) v).set (kk * 2 + 1) (.slice (some ⟨gk, 0, none⟩) z z)) (kk + 1) ∧
    Below w.heap.size w (((wx.setCell ⟨g1, kk * 2, none⟩ v).setCell ⟨g1, kk * 2 + 1, none⟩ (.slice (some ⟨gk, 0, none⟩) z z)).alloc o) := by
  obtain ⟨hl, hp⟩ := hp
  have hkl := (List.getElem?_eq_some_iff.1 hz).1
  have hlt := ho.lt
  refine ⟨(((ho.below hlt hb).set _ _).set _ _).alloc o, ⟨by rw [List.length_set, List.length_set]; exact hl, fun p z' hpk hz' => ?_⟩, ?_⟩
  · by_cases e : p = kk
    · subst e
      rw [hz] at hz'
      cases hz'
      refine ⟨gk, List.getElem?_set_self (by rw [List.length_set, hl]; omega), by omega, ?_⟩
      exact ((hseg.other (show gk ≠ g1 by omega) _).other (show gk ≠ g1 by omega) _).alloc o
    · obtain ⟨gk', h1, h2, h3⟩ := hp p z' (by omega) hz'
      refine ⟨gk', ?_, h2, ?_⟩
      · rw [List.getElem?_set_ne (by omega), List.getElem?_set_ne (by omega)]; exact h1
      · exact (((h3.below h3.lt hb).other (show gk' ≠ g1 by omega) _).other (show gk' ≠ g1 by omega) _).alloc o
  · have h5 : Below w.heap.size w wx := hB.trans (hb.mono hB.size)
    exact ((h5.setCell hg1 _).setCell hg1 _).alloc (by simpa using h5.size) o
theorem PgInv.below {wr wx : World} {g1 : Nat} {Z : List Nat} {L : List (Int × Int)} {C : List Value} {kk : Nat} (h : PgInv wr g1 Z L C kk) (hb : Below wr.heap.size wr wx) : PgInv wx g1 Z L C kk :=
  ⟨h.1, fun p z hp hz => by
    obtain ⟨gk, h1, h2, h3⟩ := h.2 p z hp hz
    exact ⟨gk, h1, h2, h3.below h3.lt hb⟩⟩

theorem seg_len {L : List (Int × Int)} {o z : Nat} (h : o + z ≤ L.length) : ((L.drop o).take z).length = z := by simp; omega
theorem seg_ext {M L : List (Int × Int)} {o z : Nat} (hM : M.length = z) (h : o + z ≤ L.length) (hj : ∀ i, i < z → M.getD i (0, 0) = L.getD (o + i) (0, 0)) : M = (L.drop o).take z := by
  refine pts_ext hM (seg_len h) fun j hj' => ?_
  rw [hj j hj', List.getD_eq_getElem?_getD, List.getD_eq_getElem?_getD, List.getElem?_take, if_pos hj', List.getElem?_drop]
theorem seg_step {M L : List (Int × Int)} {o k : Nat} {pt : Int × Int} (hk : k < M.length) (hp : L.getD (o + k) (0, 0) = pt) (h : ∀ j, j < k → M.getD j (0, 0) = L.getD (o + j) (0, 0)) : ∀ j, j < k + 1 → (M.set k pt).getD j (0, 0) = L.getD (o + j) (0, 0) := by
  intro j hj
  by_cases e : j = k
  · subst e; rw [hp]; simp [List.getD_eq_getElem?_getD, hk]
  · have := h j (by omega)
    simp only [List.getD_eq_getElem?_getD] at this ⊢
    rw [List.getElem?_set_ne (by omega)]; exact this

/-- The probes' sixteen cells. -/
def prCells (q : Nat → Int) (pg ix : Nat → Nat) : List Value :=
  [.int .u64 (q 0), .int .i64 (pg 0), .int .i64 (ix 0), .int .i64 0,
   .int .u64 (q 1), .int .i64 (pg 1), .int .i64 (ix 1), .int .i64 0,
   .int .u64 (q 2), .int .i64 (pg 2), .int .i64 (ix 2), .int .i64 0,
   .int .u64 (q 3), .int .i64 (pg 3), .int .i64 (ix 3), .int .i64 0]
def updA {α : Type} (f : Nat → α) (r : Nat) (v : α) : Nat → α := fun i => if i = r then v else f i
theorem pr_set {q : Nat → Int} {pg ix : Nat → Nat} {q' : Int} {p' x' : Nat} : ∀ {r : Nat}, r < 4 →
    ((((prCells q pg ix).set (r * 4) (.int .u64 q')).set (r * 4 + 1) (.int .i64 p')).set (r * 4 + 2) (.int .i64 x')).set (r * 4 + 3) (.int .i64 0) = prCells (updA q r q') (updA pg r p') (updA ix r x')
  | 0, _ => rfl
  | 1, _ => rfl
  | 2, _ => rfl
  | 3, _ => rfl
  | r + 4, h => by omega
theorem pr_len (q : Nat → Int) (pg ix : Nat → Nat) : (prCells q pg ix).length = 16 := rfl
theorem pr_put {w : World} {g : Nat} {q : Nat → Int} {pg ix : Nat → Nat} {r : Nat} (h : OB w g 102 (prCells q pg ix)) (hr : r < 4) (q' : Int) (p' x' : Nat) (o : Obj) :
    OB (((((w.setCell ⟨g, r * 4, none⟩ (.int .u64 q')).setCell ⟨g, r * 4 + 1, none⟩ (.int .i64 p')).setCell ⟨g, r * 4 + 2, none⟩ (.int .i64 x')).setCell ⟨g, r * 4 + 3, none⟩ (.int .i64 0)).alloc o) g 102 (prCells (updA q r q') (updA pg r p') (updA ix r x')) := by
  have h1 := ((((h.set (r * 4) (.int .u64 q')).set (r * 4 + 1) (.int .i64 p')).set (r * 4 + 2) (.int .i64 x')).set (r * 4 + 3) (.int .i64 0)).alloc o
  rw [pr_set hr] at h1
  exact h1
/-- The first i probes stand where they start. -/
def PrInv (Z : List Nat) (Q : List Int) (S : List Nat) (q : Nat → Int) (pg ix : Nat → Nat) (i : Nat) : Prop := ∀ j, j < i → q j = Q.getD j 0 ∧ Lies Z (S.getD j 0) (pg j) (ix j)
theorem PrInv.step {Z : List Nat} {Q : List Int} {S : List Nat} {q : Nat → Int} {pg ix : Nat → Nat} {i : Nat} (h : PrInv Z Q S q pg ix i) {q' : Int} {s p' x' : Nat} (hq : Q[i]? = some q') (hs : S[i]? = some s) (hl : Lies Z s p' x') : PrInv Z Q S (updA q i q') (updA pg i p') (updA ix i x') (i + 1) := by
  intro j hj
  unfold updA
  by_cases e : j = i
  · subst e
    rw [if_pos rfl, if_pos rfl, if_pos rfl, List.getD_eq_getElem?_getD, List.getD_eq_getElem?_getD, hq, hs]
    exact ⟨rfl, hl⟩
  · rw [if_neg e, if_neg e, if_neg e]; exact h j (by omega)
theorem pages_of {w : World} {gp g1 n : Nat} {Z : List Nat} {L : List (Int × Int)} {C : List Value} (ho : OB w g1 98 C) (hp : PgInv w g1 Z L C Z.length) (hc : OB w gp 113 [.slice (some ⟨g1, 0, none⟩) Z.length Z.length, .int .u64 0, .int .i64 n, .int .u32 0]) (hs : Z.sum = n) (hn : n ≤ 1048576) (hl : Z.length ≤ 1048576) (hL : L.length = n) : Pages w gp g1 Z L :=
  ⟨hc.cell 0, by rw [hs]; exact hc.cell 2, hc.lt, ho.lt, hl, by omega, fun p z hz => by
    obtain ⟨gk, h1, h2, h3⟩ := hp.2 p z (List.getElem?_eq_some_iff.1 hz).1 hz
    refine ⟨some ⟨gk, 0, none⟩, by rw [ho.cell]; exact h1, h3.row' ?_⟩
    have h4 := off_le Z (p + 1)
    rw [off_succ hz] at h4
    rw [ptCells_length, seg_len (by omega)]⟩
end Go.Proofs.Qxb6601991aMods
