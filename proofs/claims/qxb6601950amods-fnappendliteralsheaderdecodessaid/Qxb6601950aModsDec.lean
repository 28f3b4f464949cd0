/-
  zzDecodeLitHeader (function 11) on a header's bytes.
-/
import Derived.Test.Qxb6601950aModsClone
namespace Go.Proofs.Qxb6601950aMods
open Go.ChangeShapes Go.WideShapes Go.ChangeAt Go.RowKit
set_option linter.unusedVariables false

theorem and3 (b : Int) (h : 0 ≤ b) (h' : b < 4294967296) : bits BinOp.and IntKind.u32 b 3 = b % 4 := by
  rw [u32_and b 3 h h' (by decide) (by decide)]
  show ((b.toNat &&& 3 : Nat) : Int) = b % 4
  rw [nat_mask2]; omega

set_option maxHeartbeats 1000000 in
theorem dec1a (g off c : Nat) (b k m : Int) (w : World) (hb : 0 ≤ b) (hb' : b < 256) (h1 : b % 4 = k) (h2 : b / 4 % 4 = 0) (h3 : b / 8 = m) (c0 : w.cell? ⟨g, off, none⟩ = some (.int .u8 b)) :
    Calls Trym.prog 11 #[.slice (some ⟨g, off, none⟩) 1 c] w fun e w' => e = .returned (.tuple #[.int .u32 k, .int .i64 m, .int .i64 1, .bool true]) ∧ ∃ q, w' = w.drewN q := by
  have o1 : bits BinOp.and IntKind.u32 b 3 = k := by rw [and3 b hb (by omega)]; exact h1
  have o2 : bits BinOp.and IntKind.u32 (b / 4) 3 = 0 := by rw [and3 _ (by omega) (by omega)]; exact h2
  clear h1 h2
  go_enter Trym.func11, Trym.ntmps11
  go_wp2
  go_returns
  exact ⟨rfl, 0, rfl⟩

set_option maxHeartbeats 1000000 in
theorem dec1b (g off c : Nat) (b k m : Int) (w : World) (hb : 0 ≤ b) (hb' : b < 256) (h1 : b % 4 = k) (h2 : b / 4 % 4 = 2) (h3 : b / 8 = m) (c0 : w.cell? ⟨g, off, none⟩ = some (.int .u8 b)) :
    Calls Trym.prog 11 #[.slice (some ⟨g, off, none⟩) 1 c] w fun e w' => e = .returned (.tuple #[.int .u32 k, .int .i64 m, .int .i64 1, .bool true]) ∧ ∃ q, w' = w.drewN q := by
  have o1 : bits BinOp.and IntKind.u32 b 3 = k := by rw [and3 b hb (by omega)]; exact h1
  have o2 : bits BinOp.and IntKind.u32 (b / 4) 3 = 2 := by rw [and3 _ (by omega) (by omega)]; exact h2
  clear h1 h2
  go_enter Trym.func11, Trym.ntmps11
  go_wp2
  go_returns
  exact ⟨rfl, 0, rfl⟩

set_option maxHeartbeats 1000000 in
theorem dec2 (g off c : Nat) (b b1 k m : Int) (w : World) (hb : 0 ≤ b) (hb' : b < 256) (hc : 0 ≤ b1) (hc' : b1 < 256) (h1 : b % 4 = k) (h2 : b / 4 % 4 = 1) (h3 : b / 16 + b1 * 16 = m) (c0 : w.cell? ⟨g, off, none⟩ = some (.int .u8 b)) (c1 : w.cell? ⟨g, off + 1, none⟩ = some (.int .u8 b1)) :
    Calls Trym.prog 11 #[.slice (some ⟨g, off, none⟩) 2 c] w fun e w' => e = .returned (.tuple #[.int .u32 k, .int .i64 m, .int .i64 2, .bool true]) ∧ ∃ q, w' = w.drewN q := by
  have o1 : bits BinOp.and IntKind.u32 b 3 = k := by rw [and3 b hb (by omega)]; exact h1
  have o2 : bits BinOp.and IntKind.u32 (b / 4) 3 = 1 := by rw [and3 _ (by omega) (by omega)]; exact h2
  have o3 : bits BinOp.or IntKind.u32 (b / 16) (b1 * 16) = m := by
    rw [or16m (b / 16) b1 (by omega) (by omega) hc (by omega)]; exact h3
  have hm : 0 ≤ m ∧ m < 1048576 := by omega
  obtain ⟨hm0, hm1⟩ := hm
  clear h1 h2 h3
  go_enter Trym.func11, Trym.ntmps11
  go_wp2
  go_quiet (fail)
  go_wp2
  go_returns
  exact ⟨rfl, _, rfl⟩

theorem or4096m (k m : Int) (h : 0 ≤ k) (h' : k ≤ 4095) (hm : 0 ≤ m) (hm' : m < 256) : bits BinOp.or IntKind.u32 k (m * 4096) = k + m * 4096 := or_u32 12 k _ h (by omega) (by omega) (by omega) (by omega) (by decide)

set_option maxHeartbeats 1000000 in
theorem dec3 (g off c : Nat) (b b1 b2 k m : Int) (w : World) (hb : 0 ≤ b) (hb' : b < 256) (hc : 0 ≤ b1) (hc' : b1 < 256) (hd : 0 ≤ b2) (hd' : b2 < 256) (h1 : b % 4 = k) (h2 : b / 4 % 4 = 3) (h3 : b / 16 + b1 * 16 + b2 * 4096 = m) (c0 : w.cell? ⟨g, off, none⟩ = some (.int .u8 b)) (c1 : w.cell? ⟨g, off + 1, none⟩ = some (.int .u8 b1)) (c2 : w.cell? ⟨g, off + 2, none⟩ = some (.int .u8 b2)) :
    Calls Trym.prog 11 #[.slice (some ⟨g, off, none⟩) 3 c] w fun e w' => e = .returned (.tuple #[.int .u32 k, .int .i64 m, .int .i64 3, .bool true]) ∧ ∃ q, w' = w.drewN q := by
  have o1 : bits BinOp.and IntKind.u32 b 3 = k := by rw [and3 b hb (by omega)]; exact h1
  have o2 : bits BinOp.and IntKind.u32 (b / 4) 3 = 3 := by rw [and3 _ (by omega) (by omega)]; exact h2
  have o3 : bits BinOp.or IntKind.u32 (b / 16) (b1 * 16) = b / 16 + b1 * 16 := or16m (b / 16) b1 (by omega) (by omega) hc (by omega)
  have o4 : bits BinOp.or IntKind.u32 (b / 16 + b1 * 16) (b2 * 4096) = m := by rw [or4096m _ _ (by omega) (by omega) hd hd']; exact h3
  have hm : 0 ≤ m ∧ m < 1048576 := by omega
  obtain ⟨hm0, hm1⟩ := hm
  clear h1 h2 h3
  go_enter Trym.func11, Trym.ntmps11
  go_wp2
  go_quiet (fail)
  go_wp2
  go_returns
  exact ⟨rfl, _, rfl⟩

theorem dec_any (g off c : Nat) (k m : Int) (w : World) (hk : 0 ≤ k) (hk' : k ≤ 3) (hm : 0 ≤ m) (hm' : m < 1048576) (hc : ∀ j, j < (hdr k m).length → w.cell? ⟨g, off + j, none⟩ = some (.int .u8 ((hdr k m).getD j 0))) :
    Calls Trym.prog 11 #[.slice (some ⟨g, off, none⟩) (hdr k m).length c] w fun e w' => e = .returned (.tuple #[.int .u32 k, .int .i64 m, .int .i64 (hdr k m).length, .bool true]) ∧ ∃ q, w' = w.drewN q := by
  by_cases h1 : m < 32
  · have e : hdr k m = [k + m * 8] := by simp [hdr, h1]
    rw [e] at hc ⊢
    have c0 := hc 0 (by simp)
    by_cases hp : m % 2 = 0
    · exact dec1a g off c (k + m * 8) k m w (by omega) (by omega) (by omega) (by omega) (by omega) c0
    · exact dec1b g off c (k + m * 8) k m w (by omega) (by omega) (by omega) (by omega) (by omega) c0
  · by_cases h2 : m < 4096
    · have e : hdr k m = [(k + 4 + m * 16) % 256, (k + 4 + m * 16) / 256] := by simp [hdr, h1, h2]
      rw [e] at hc ⊢
      exact dec2 g off c ((k + 4 + m * 16) % 256) ((k + 4 + m * 16) / 256) k m w (by omega) (by omega) (by omega) (by omega) (by omega) (by omega) (by omega) (hc 0 (by simp)) (hc 1 (by simp))
    · have e : hdr k m = [(k + 12 + m * 16) % 256, (k + 12 + m * 16) / 256 % 256, (k + 12 + m * 16) / 65536] := by simp [hdr, h1, h2]
      rw [e] at hc ⊢
      exact dec3 g off c ((k + 12 + m * 16) % 256) ((k + 12 + m * 16) / 256 % 256) ((k + 12 + m * 16) / 65536) k m w (by omega) (by omega) (by omega) (by omega) (by omega) (by omega) (by omega) (by omega) (by omega) (hc 0 (by simp)) (hc 1 (by simp)) (hc 2 (by simp))
end Go.Proofs.Qxb6601950aMods
