/-
  zzCloneBytes (function 9): a fresh row of the same bytes; nil stays nil.
-/
import Derived.Test.Qxb6601950aModsPrefixFree
import Derived.Laws.CopyOwn
import Derived.WalkSpells
namespace Go.Proofs.Qxb6601950aMods
open Go.ChangeShapes Go.WideShapes Go.ChangeAt Go.RowKit
set_option linter.unusedVariables false

theorem eql_nil (a : Option Addr) (l c : Nat) (w : World) : (binOp .eql 22 (.slice a l c) (.slice none 0 0)).run Trym.prog w = .ok (.bool a.isNone) w := by
  exact Lib.run_eql_slice_nil w 22 5 a l c 0 0 Trym.underlying22

/-- A guard: the next operation is a call of the builtin copy. -/
theorem at_copy {P : Program} {ops : Array Oper} {Q : Exit → Act → World → Prop} {rest : List Oper} {a : Act} {w : World} {dst : Option Tmp} {ty : TypeId} {pos : String} {after : Array Edge} {args : Array Operand} {tys : Array TypeId}
    (h : wpList P ops Q ({ dst := dst, op := .call { callee := .builtin .copy, args := args, argTypes := tys }, type := ty, pos := pos, after := after, guard := none } :: rest) a w) :
    wpList P ops Q ({ dst := dst, op := .call { callee := .builtin .copy, args := args, argTypes := tys }, type := ty, pos := pos, after := after, guard := none } :: rest) a w := h

theorem clone_nil (w : World) : Calls Trym.prog 9 #[.slice none 0 0] w fun e w' => e = .returned (.slice none 0 0) ∧ w' = w := by
  have hq := eql_nil none 0 0
  go_enter Trym.func9, Trym.ntmps9
  go_wp2
  go_ret
  exact ⟨rfl, rfl⟩

theorem copied {w w1 : World} {n : Nat} {z L : List Value} (o1 : w1.ownsRow w.heap.size 5 1 (.slice (some ⟨w.heap.size, 0, none⟩) n n) n z) (g1 : w.grownBy w1 none) (hL : L.length = n) :
    ∃ cur, w1.heap[w.heap.size]? = some (.cells cur 5 (0, 0)) ∧ cur.size = n ∧
      (w1.setRow w.heap.size (cur.toList.take 0 ++ (L ++ cur.toList.drop (0 + L.length))).toArray).ownsRow w.heap.size 5 1 (.slice (some ⟨w.heap.size, 0, none⟩) n n) n L ∧
      w.grownBy (w1.setRow w.heap.size (cur.toList.take 0 ++ (L ++ cur.toList.drop (0 + L.length))).toArray) none := by
  rcases o1.2 with ⟨h, _⟩ | ⟨g, cap, cur, hv, hb, hg, hnc, hcm, hcs, ht⟩
  · cases h
  · simp only [Value.slice.injEq, Option.some.injEq, Addr.mk.injEq] at hv
    obtain ⟨⟨rfl, _⟩, _, rfl⟩ := hv
    refine ⟨cur, hg, by omega, ⟨by omega, .inr ⟨_, _, _, rfl, Nat.le_refl _, setRow_heap w1 _ cur _ 5 _ hg, hnc, hcm, ?_, ?_⟩⟩, ?_⟩
    · simp; omega
    · simp [hL]
    · exact ⟨g1.os, g1.tape, g1.output, by simpa [World.setRow] using g1.size, fun k hk hr => (setRow_other w1 _ k _ (by omega)).trans (g1.block k hk hr)⟩

set_option maxHeartbeats 1000000 in
theorem clone_some (x : Addr) (n c : Nat) (L : List Int) (w : World) (hL : L.length = n) (hn : n ≤ 1048576) (hc : ∀ j u, (L.map (Value.int .u8))[j]? = some u → w.cell? (x.add j) = some u) :
    Calls Trym.prog 9 #[.slice (some x) n c] w fun e w' => ∃ v', e = .returned v' ∧ w'.ownsRow w.heap.size 5 1 v' n (L.map (Value.int .u8)) ∧ w.grownBy w' none := by
  obtain ⟨i0, hi, hz0, hz1, hz2⟩ := info_parts info5
  have HC := hide hc
  have HL := hide hL
  have hs5 : (Trym.prog.info? 5).map (·.size) = some 1 := by rw [hi]; simp [hz1]
  clear hc hL
  have hq := eql_nil (some x) n c
  go_enter Trym.func9, Trym.ntmps9
  go_wp2_with (first | (at_make; refine wpList_make_full _ rfl _ _ 22 rfl w.heap.size 5 i0 (.int .u8 0) 1 Trym.underlying22 hi hz0 hz1 .i64 .i64 _ _ n rfl rfl rfl rfl (by rw [hz2]; omega) (by unfold maxLen; omega) (Nat.le_refl _) ?_; intro w1 o1 g1; obtain ⟨cur, hg, hcs, o2, g2⟩ := copied o1 g1 (L := L.map (Value.int .u8)) (by rw [List.length_map]; exact HL.out); have HG := hide hg; clear hg) | (with_reducible refine at_copy ?_; refine wpList_copy_own rfl _ _ 22 22 rfl 5 Trym.underlying22 hs5 w.heap.size 0 n n x n c rfl rfl cur 5 HG.out (L.map (Value.int .u8)) ?c1 ?c2 ?c3 (one_ints _ _) ?_))
  case c1 => rw [List.length_map, HL.out]; exact (Nat.min_self n).symm
  case c2 => exact fun j v h => g1.cell (HC.out j v h) (by simp)
  case c3 => have hl := HL.out; rw [List.length_map]; omega
  go_ret
  exact ⟨_, rfl, by simpa using o2, by simpa using g2⟩
end Go.Proofs.Qxb6601950aMods
