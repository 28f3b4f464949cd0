/-
  zzIsPrefix (function 12): it answers whether the one row of bytes is a prefix of the other.
-/
import Derived.Test.Qxb6601950aModsRows
import Derived.WalkKit
import Derived.ProofKit
import Derived.Handy
import Derived.Deep.QuietTactic
import Derived.BigQuiet
namespace Go.Proofs.Qxb6601950aMods
open Go.ChangeShapes Go.WideShapes Go.ChangeAt Go.RowKit
set_option linter.unusedVariables false

theorem hide {p : Prop} (h : p) : Hid p := h

/-- Is A a prefix of B? -/
def isPre : List Int → List Int → Bool
  | [], _ => true
  | _ :: _, [] => false
  | a :: ar, b :: br => a == b && isPre ar br

theorem isPre_long : ∀ (A B : List Int), B.length < A.length → isPre A B = false
  | [], _, h => by simp at h
  | _ :: _, [], _ => rfl
  | a :: ar, b :: br, h => by
    simp only [isPre, isPre_long ar br (by simpa using h), Bool.and_false]
theorem isPre_all : ∀ (A B : List Int), A.length ≤ B.length → (∀ j, j < A.length → A.getD j 0 = B.getD j 0) → isPre A B = true
  | [], _, _, _ => rfl
  | _ :: _, [], h, _ => by simp at h
  | a :: ar, b :: br, h, hj => by
    have h0 := hj 0 (by simp)
    have ih := isPre_all ar br (by simpa using h) (fun j hj' => by simpa using hj (j + 1) (by simpa using hj'))
    simp only [List.getD_cons_zero] at h0
    simp [isPre, ih, h0]
theorem isPre_part : ∀ (A B : List Int) (k : Nat), k < A.length → k < B.length → A.getD k 0 ≠ B.getD k 0 → isPre A B = false
  | [], _, _, h, _, _ => by simp at h
  | _ :: _, [], _, _, h, _ => by simp at h
  | a :: ar, b :: br, 0, _, _, hne => by
    simp only [List.getD_cons_zero] at hne
    simp [isPre, hne]
  | a :: ar, b :: br, k + 1, h1, h2, hne => by
    have ih := isPre_part ar br k (by simpa using h1) (by simpa using h2) (by simpa using hne)
    simp [isPre, ih]

theorem ret_bool {a b : Bool} (h : a = b) : Ending.returned (.bool a) = .returned (.bool b) := by rw [h]

set_option maxHeartbeats 1000000 in
theorem prefix_any (ga gb n m ca cb : Nat) (A B : List Int) (w : World) (hA : A.length = n) (hB : B.length = m) (hn : n ≤ 1048576) (hm : m ≤ 1048576)
    (cA : ∀ j, j < n → w.cell? ⟨ga, j, none⟩ = some (.int .u8 (A.getD j 0))) (cB : ∀ j, j < m → w.cell? ⟨gb, j, none⟩ = some (.int .u8 (B.getD j 0))) :
    Calls Trym.prog 12 #[.slice (some ⟨ga, 0, none⟩) n ca, .slice (some ⟨gb, 0, none⟩) m cb] w fun e w' => e = .returned (.bool (isPre A B)) ∧ ∃ q, w' = w.drewN q := by
  by_cases hlen : m < n
  · have hfin := isPre_long A B (by omega)
    have HF : Hid (isPre A B = false) := hfin
    clear hfin cA cB
    go_enter Trym.func12, Trym.ntmps12
    go_wp2
    go_ret
    exact ⟨ret_bool HF.out.symm, 0, rfl⟩
  · have HA : Hid (∀ j, j < n → w.cell? ⟨ga, j, none⟩ = some (.int .u8 (A.getD j 0))) := cA
    have HB : Hid (∀ j, j < m → w.cell? ⟨gb, j, none⟩ = some (.int .u8 (B.getD j 0))) := cB
    have HlA : Hid (A.length = n) := hA
    have HlB : Hid (B.length = m) := hB
    clear cA cB hA hB
    go_enter Trym.func12, Trym.ntmps12
    go_wp2
    go_loopw [5] (fun i wr => ∃ k : Nat, k ≤ n ∧ i = .int .i64 k ∧ (∀ j, j < k → A.getD j 0 = B.getD j 0) ∧ ∃ q, wr = w.drewN q) (fun i _ => n - (intOf i).toNat)
    case atStart => exact ⟨0, Nat.zero_le _, rfl, fun j hj => by omega, 0, rfl⟩
    case round =>
      obtain ⟨k, hk, rfl, heq, q, rfl⟩ := hrel
      have HE : Hid (∀ j, j < k → A.getD j 0 = B.getD j 0) := heq
      clear heq
      by_cases hlt : k < n
      · obtain ⟨x, hx⟩ : ∃ x, x = A.getD k 0 := ⟨_, rfl⟩
        obtain ⟨y, hy⟩ : ∃ y, y = B.getD k 0 := ⟨_, rfl⟩
        have c1 : w.cell? ⟨ga, k, none⟩ = some (.int .u8 x) := by rw [hx]; exact HA.out k hlt
        have c2 : w.cell? ⟨gb, k, none⟩ = some (.int .u8 y) := by rw [hy]; exact HB.out k (by omega)
        have Hx : Hid (x = A.getD k 0) := hx
        have Hy : Hid (y = B.getD k 0) := hy
        clear hx hy
        have b1 : (k : Int) < (n : Int) := by omega
        have b2 : (k : Int) < (m : Int) := by omega
        by_cases hxy : x = y
        · have hd : (x != y) = false := by simp [hxy]
          go_wp2
          go_quiet (fail)
          go_wp2
          refine ⟨⟨k + 1, by omega, by go_num, ?_, _, rfl⟩, by simp [intOf]; omega⟩
          intro j hj
          by_cases hjk : j = k
          · rw [hjk, ← Hx.out, ← Hy.out]; exact hxy
          · exact HE.out j (by omega)
        · have hd : (x != y) = true := by simp [hxy]
          have HF : Hid (isPre A B = false) := isPre_part A B k (by rw [HlA.out]; exact hlt) (by rw [HlB.out]; omega) (by rw [← Hx.out, ← Hy.out]; exact hxy)
          go_wp2
          go_quiet (fail)
          go_wp2
          go_ret
          exact ⟨ret_bool HF.out.symm, _, World.drewN_drewN _ _ _⟩
      · have HF : Hid (isPre A B = true) := isPre_all A B (by rw [HlA.out, HlB.out]; omega) (fun j hj => HE.out j (by rw [HlA.out] at hj; omega))
        go_wp2
        go_ret
        exact ⟨ret_bool HF.out.symm, _, rfl⟩
end Go.Proofs.Qxb6601950aMods
