/-
  before (62).
-/
import Derived.Test.Qxb6601991aModsWalk6
namespace Go.Proofs.Qxb6601991aMods
open Go.ChangeShapes Go.WideShapes Go.ChangeAt Go.RowKit
set_option linter.unusedVariables false

/-- A point and a probe: the distance and the server's name. -/
def wKey (N : List ByteArray) (a : Int × Int) (q : Int) : Int × List UInt8 := (dist q a.1, (N.getD a.2.toNat ⟨#[]⟩).toList)

set_option maxRecDepth 100000 in
set_option maxHeartbeats 4000000 in
theorem before_any (gw m : Nat) (a2 : Option Addr) (N : List ByteArray) (p s q p' s' q' : Int) (w : World) (hw : gw < w.heap.size) (hc : w.cell? ⟨gw, 1, none⟩ = some (.slice a2 m m)) (hN : Row w a2 m 1 (N.flatMap strF)) (hm : m ≤ 1048576)
    (s0 : 0 ≤ s) (s1 : s < m) (s0' : 0 ≤ s') (s1' : s' < m) :
    Calls Trym.prog 62 #[.pointer (some ⟨gw, 0, none⟩), .agg #[.int .u64 p, .int .u32 s], .int .u64 q, .agg #[.int .u64 p', .int .u32 s'], .int .u64 q'] w fun e w' => e = .returned (.bool (lessK (wKey N (p, s) q) (wKey N (p', s') q'))) ∧ Below w.heap.size w w' := by
  obtain ⟨g, o, y, rfl, hg, hy, d1⟩ := hN.nameAt s0 s1
  obtain ⟨g', o', y', e, hg', hy', d2⟩ := hN.nameAt s0' s1'
  have e6 : g' = g ∧ o' = o := by simpa [eq_comm] using e
  rw [e6.1, e6.2] at d2
  clear e e6 hg' hN
  have HV := hide (show lessK (wKey N (p, s) q) (wKey N (p', s') q') = if IntKind.u64.wrap (p - q) = IntKind.u64.wrap (p' - q') then Op.bytesLess y.toList y'.toList else decide (IntKind.u64.wrap (p - q) < IntKind.u64.wrap (p' - q')) by
    unfold lessK wKey
    simp only
    rw [dist_wrap, dist_wrap, hy, hy'])
  clear hy hy'
  have n1 : gw ≠ w.heap.size := Nat.ne_of_lt hw
  have n2 : g ≠ w.heap.size := Nat.ne_of_lt hg
  have n3 : gw ≠ w.heap.size + 1 := by omega
  have n4 : g ≠ w.heap.size + 1 := by omega
  go_enter Trym.func62, Trym.ntmps62
  by_cases hd : IntKind.u64.wrap (p - q) = IntKind.u64.wrap (p' - q')
  · have hd' : (IntKind.u64.wrap (p - q) != IntKind.u64.wrap (p' - q')) = false := by simp [hd]
    have HV' := hide (HV.out.trans (if_pos hd))
    clear hd HV
    go_wp2
    go_quiet (fail)
    go_wp2
    go_quiet (fail)
    go_wp2
    go_ret
    rw [HV'.out]
    exact ⟨rfl, below_draws (below_draws (by go_grown) _) _⟩
  · have hd' : (IntKind.u64.wrap (p - q) != IntKind.u64.wrap (p' - q')) = true := by simp [hd]
    have HV' := hide (HV.out.trans (if_neg hd))
    clear hd HV
    go_wp2
    go_quiet (fail)
    go_wp2
    go_ret
    rw [HV'.out]
    exact ⟨rfl, below_draws (by go_grown) _⟩
end Go.Proofs.Qxb6601991aMods
