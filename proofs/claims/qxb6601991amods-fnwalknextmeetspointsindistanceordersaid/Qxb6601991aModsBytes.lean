/-
  The laws' bounds on lengths: zzAdd (10), zzPtsBytes (11), zzBytes_FnAppendStayingKeeps.. (9).
-/
import Derived.Test.Qxb6601991aModsKit
namespace Go.Proofs.Qxb6601991aMods
open Go.ChangeShapes Go.WideShapes Go.ChangeAt Go.RowKit
set_option linter.unusedVariables false

theorem ret_int {k : IntKind} {a b : Int} (h : a = b) : Ending.returned (.int k a) = .returned (.int k b) := by rw [h]
theorem ret_bool {a b : Bool} (h : a = b) : Ending.returned (.bool a) = .returned (.bool b) := by rw [h]

def addTo (t n : Int) : Int := if 1048576 < t ∨ n < 0 ∨ 1048576 < n then 1048577 else t + n

theorem add_any (t n : Int) (w : World) (h0 : 0 ≤ t) : Calls Trym.prog 10 #[.int .i64 t, .int .i64 n] w fun e w' => e = .returned (.int .i64 (addTo t n)) ∧ w' = w := by
  by_cases h1 : 1048576 < t
  · go_enter Trym.func10, Trym.ntmps10
    go_wp2
    go_ret
    exact ⟨ret_int (by simp [addTo, h1]), rfl⟩
  by_cases h2 : n < 0
  · go_enter Trym.func10, Trym.ntmps10
    go_wp2
    go_ret
    exact ⟨ret_int (by simp [addTo, h2]), rfl⟩
  by_cases h3 : 1048576 < n
  · go_enter Trym.func10, Trym.ntmps10
    go_wp2
    go_ret
    exact ⟨ret_int (by simp [addTo, h3]), rfl⟩
  have e : addTo t n = t + n := by simp [addTo, h1, h2, h3]
  have HE := hide e
  clear e
  go_enter Trym.func10, Trym.ntmps10
  go_wp2
  go_ret
  exact ⟨ret_int HE.out.symm, rfl⟩

theorem addTo_nonneg (t n : Int) (h : 0 ≤ t) : 0 ≤ addTo t n ∧ addTo t n ≤ 2097152 := by
  unfold addTo; split <;> omega

def ptsTo (t : Int) (n : Nat) : Int := if 65536 < n then 1048577 else addTo t (16 * n)
theorem ptsTo_nonneg (t : Int) (n : Nat) (h : 0 ≤ t) : 0 ≤ ptsTo t n := by
  unfold ptsTo; split
  · omega
  · exact (addTo_nonneg t _ h).1

theorem pts_any (t : Int) (a : Option Addr) (n c : Nat) (w : World) (h0 : 0 ≤ t) : Calls Trym.prog 11 #[.int .i64 t, .slice a n c] w fun e w' => e = .returned (.int .i64 (ptsTo t n)) ∧ w' = w := by
  by_cases h1 : 65536 < n
  · have h2 : (65536 : Int) < n := by omega
    go_enter Trym.func11, Trym.ntmps11
    go_wp2
    go_ret
    exact ⟨ret_int (by simp [ptsTo, h1]), rfl⟩
  · have h2 : (n : Int) ≤ 65536 := by omega
    have HE := hide (show ptsTo t n = addTo t (16 * n) by simp [ptsTo, h1])
    go_enter Trym.func11, Trym.ntmps11
    go_wp2_with fail
    refine (add_any t _ w h0).mono ?_
    rintro e w' ⟨rfl, rfl⟩
    go_wp2
    go_ret
    exact ⟨ret_int HE.out.symm, rfl⟩

theorem bytes9 (a0 a1 a2 : Option Addr) (n0 n1 n2 c0 c1 c2 : Nat) (w : World) :
    Calls Trym.prog 9 #[.slice a0 n0 c0, .slice a1 n1 c1, .slice a2 n2 c2] w fun e w' => e = .returned (.bool (decide (n0 + n1 + n2 ≤ 1048576))) ∧ w' = w := by
  go_enter Trym.func9, Trym.ntmps9
  go_wp2
  all_goals
    go_ret
    exact ⟨ret_bool (by simp; omega), rfl⟩
end Go.Proofs.Qxb6601991aMods
