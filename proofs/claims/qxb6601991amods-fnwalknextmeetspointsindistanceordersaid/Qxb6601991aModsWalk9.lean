/-
  ZZMakePage (54), ZZMakeProbeWalk (56), ZZMakeWalk (57).
-/
import Derived.Test.Qxb6601991aModsWalk7
import Derived.Deep.DeepCutAuto
namespace Go.Proofs.Qxb6601991aMods
open Go.ChangeShapes Go.WideShapes Go.ChangeAt Go.RowKit
set_option linter.unusedVariables false

theorem mkPage (a : Option Addr) (z : Nat) (w : World) : Calls Trym.prog 54 #[.slice a z z] w fun e w' => e = .returned (.agg #[.slice none 0 0, .slice a z z]) ∧ w' = w.alloc (.cells #[.slice none 0 0, .slice a z z] 98) := by
  go_enter Trym.func54, Trym.ntmps54
  go_wp2
  go_returns
  exact ⟨rfl, rfl⟩
theorem mkProbe (q : Int) (p x c : Int) (w : World) : Calls Trym.prog 56 #[.int .u64 q, .int .i64 p, .int .i64 x, .int .i64 c] w fun e w' => e = .returned (.agg #[.int .u64 q, .int .i64 p, .int .i64 x, .int .i64 c]) ∧ w' = w.alloc (.cells #[.int .u64 q, .int .i64 p, .int .i64 x, .int .i64 c] 101) := by
  go_enter Trym.func56, Trym.ntmps56
  go_wp2
  go_returns
  exact ⟨rfl, rfl⟩
set_option maxRecDepth 100000 in
set_option maxHeartbeats 1000000 in
theorem mkWalk (gs k n m P : Nat) (a2 : Option Addr) (v0 v1 v2 v3 v4 v5 v6 v7 v8 v9 v10 v11 v12 v13 v14 v15 : Value) (w : World) :
    Calls Trym.prog 57 #[.slice (some ⟨gs, 0, none⟩) k k, .int .i64 n, .slice a2 m m, .agg #[v0, v1, v2, v3, v4, v5, v6, v7, v8, v9, v10, v11, v12, v13, v14, v15], .int .i64 P, .bool false] w fun e w' =>
      e = .returned (.pointer (some ⟨w.heap.size + 2, 0, none⟩)) ∧
      w' = ((w.alloc (.cells #[v0, v1, v2, v3, v4, v5, v6, v7, v8, v9, v10, v11, v12, v13, v14, v15] 102)).alloc (.cells #[.slice (some ⟨gs, 0, none⟩) k k, .int .u64 0, .int .i64 n, .int .u32 0] 113)).alloc (.cells #[.pointer (some ⟨w.heap.size + 1, 0, none⟩), .slice a2 m m, v0, v1, v2, v3, v4, v5, v6, v7, v8, v9, v10, v11, v12, v13, v14, v15, .int .i64 P, .bool false] 115) := by
  go_enter Trym.func57, Trym.ntmps57
  go_wp2
  go_ret
  exact ⟨rfl, rfl⟩
end Go.Proofs.Qxb6601991aMods
