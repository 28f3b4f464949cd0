/-
  The bounds on lengths of the laws on seats: zzMembersBytes (26), zzSrvsBytes (25), zzStringsBytes (24), zzBytes_.. (23, 35).
-/
import Derived.Test.Qxb6601991aModsSeat0
namespace Go.Proofs.Qxb6601991aMods
open Go.ChangeShapes Go.WideShapes Go.ChangeAt Go.RowKit
set_option linter.unusedVariables false

def SomeTotal (w : World) : Ending → World → Prop := fun e w' => ∃ t : Int, e = .returned (.int .i64 t) ∧ 0 ≤ t ∧ t ≤ 2097152 ∧ w' = w
def SomeBool (w : World) : Ending → World → Prop := fun e w' => (e = .returned (.bool false) ∧ w' = w) ∨ (e = .returned (.bool true) ∧ w' = w)

set_option maxHeartbeats 1000000 in
theorem mems_any (t : Int) (a : Option Addr) (n c : Nat) (L : List (ByteArray × Int × Int)) (w : World) (hr : Row w a n 3 (L.flatMap memF)) (h0 : 0 ≤ t) :
    Calls Trym.prog 26 #[.int .i64 t, .slice a n c] w (SomeTotal w) := by
  by_cases h1 : 65536 < n
  · have h2 : (65536 : Int) < n := by omega
    go_enter Trym.func26, Trym.ntmps26
    go_wp2
    go_ret
    exact ⟨_, rfl, by omega, by omega, rfl⟩
  · have h2 : (n : Int) ≤ 65536 := by omega
    have HR := hide hr
    clear hr
    go_enter Trym.func26, Trym.ntmps26
    go_wp2_with fail
    refine (add_any t _ w h0).mono ?_
    rintro e w' ⟨rfl, rfl⟩
    have hb := addTo_nonneg t (32 * n) h0
    generalize addTo t (32 * n) = t1 at *
    go_wp2_with fail
    go_loop [0, 5] (fun v i => ∃ (k : Nat) (x : Int), k ≤ n ∧ i = .int .i64 k ∧ v = .int .i64 x ∧ 0 ≤ x ∧ x ≤ 2097152) (fun _ i => n - (intOf i).toNat)
    case atStart => exact ⟨0, t1, Nat.zero_le _, rfl, rfl, hb.1, hb.2⟩
    case round =>
      obtain ⟨k, x, hk, rfl, rfl, hx0, hx1⟩ := hrel
      by_cases hlt : k < n
      · obtain ⟨b, off, s, wt, no, rfl, hb', _, c1, _, _⟩ := HR.out.mem hlt
        have b1 : (k : Int) < (n : Int) := by omega
        have ha := addTo_nonneg x s.size hx0
        go_wp2_with fail
        refine (add_any x _ w' hx0).mono ?_
        rintro e w1 ⟨rfl, rfl⟩
        generalize addTo x s.size = x1 at *
        go_wp2
        exact ⟨⟨k + 1, x1, by omega, by go_num, rfl, ha.1, ha.2⟩, by simp [intOf]; omega⟩
      · go_wp2
        go_ret
        exact ⟨_, rfl, hx0, hx1, rfl⟩

set_option maxHeartbeats 1000000 in
theorem srvs_any (t : Int) (a : Option Addr) (n c : Nat) (L : List (ByteArray × Int)) (w : World) (hr : Row w a n 2 (L.flatMap srvF)) (h0 : 0 ≤ t) :
    Calls Trym.prog 25 #[.int .i64 t, .slice a n c] w (SomeTotal w) := by
  by_cases h1 : 65536 < n
  · have h2 : (65536 : Int) < n := by omega
    go_enter Trym.func25, Trym.ntmps25
    go_wp2
    go_ret
    exact ⟨_, rfl, by omega, by omega, rfl⟩
  · have h2 : (n : Int) ≤ 65536 := by omega
    have HR := hide hr
    clear hr
    go_enter Trym.func25, Trym.ntmps25
    go_wp2_with fail
    refine (add_any t _ w h0).mono ?_
    rintro e w' ⟨rfl, rfl⟩
    have hb := addTo_nonneg t (24 * n) h0
    generalize addTo t (24 * n) = t1 at *
    go_wp2_with fail
    go_loop [0, 5] (fun v i => ∃ (k : Nat) (x : Int), k ≤ n ∧ i = .int .i64 k ∧ v = .int .i64 x ∧ 0 ≤ x ∧ x ≤ 2097152) (fun _ i => n - (intOf i).toNat)
    case atStart => exact ⟨0, t1, Nat.zero_le _, rfl, rfl, hb.1, hb.2⟩
    case round =>
      obtain ⟨k, x, hk, rfl, rfl, hx0, hx1⟩ := hrel
      by_cases hlt : k < n
      · obtain ⟨b, off, s, wt, rfl, hb', _, c1, _⟩ := HR.out.srv hlt
        have b1 : (k : Int) < (n : Int) := by omega
        have ha := addTo_nonneg x s.size hx0
        go_wp2_with fail
        refine (add_any x _ w' hx0).mono ?_
        rintro e w1 ⟨rfl, rfl⟩
        generalize addTo x s.size = x1 at *
        go_wp2
        exact ⟨⟨k + 1, x1, by omega, by go_num, rfl, ha.1, ha.2⟩, by simp [intOf]; omega⟩
      · go_wp2
        go_ret
        exact ⟨_, rfl, hx0, hx1, rfl⟩

set_option maxHeartbeats 1000000 in
theorem strs_any (t : Int) (a : Option Addr) (n c : Nat) (L : List (ByteArray)) (w : World) (hr : Row w a n 1 (L.flatMap strF)) (h0 : 0 ≤ t) :
    Calls Trym.prog 24 #[.int .i64 t, .slice a n c] w (SomeTotal w) := by
  by_cases h1 : 65536 < n
  · have h2 : (65536 : Int) < n := by omega
    go_enter Trym.func24, Trym.ntmps24
    go_wp2
    go_ret
    exact ⟨_, rfl, by omega, by omega, rfl⟩
  · have h2 : (n : Int) ≤ 65536 := by omega
    have HR := hide hr
    clear hr
    go_enter Trym.func24, Trym.ntmps24
    go_wp2_with fail
    refine (add_any t _ w h0).mono ?_
    rintro e w' ⟨rfl, rfl⟩
    have hb := addTo_nonneg t (16 * n) h0
    generalize addTo t (16 * n) = t1 at *
    go_wp2_with fail
    go_loop [0, 5] (fun v i => ∃ (k : Nat) (x : Int), k ≤ n ∧ i = .int .i64 k ∧ v = .int .i64 x ∧ 0 ≤ x ∧ x ≤ 2097152) (fun _ i => n - (intOf i).toNat)
    case atStart => exact ⟨0, t1, Nat.zero_le _, rfl, rfl, hb.1, hb.2⟩
    case round =>
      obtain ⟨k, x, hk, rfl, rfl, hx0, hx1⟩ := hrel
      by_cases hlt : k < n
      · obtain ⟨b, off, s, rfl, hb', _, c1⟩ := HR.out.str hlt
        have b1 : (k : Int) < (n : Int) := by omega
        have ha := addTo_nonneg x s.size hx0
        go_wp2_with fail
        refine (add_any x _ w' hx0).mono ?_
        rintro e w1 ⟨rfl, rfl⟩
        generalize addTo x s.size = x1 at *
        go_wp2
        exact ⟨⟨k + 1, x1, by omega, by go_num, rfl, ha.1, ha.2⟩, by simp [intOf]; omega⟩
      · go_wp2
        go_ret
        exact ⟨_, rfl, hx0, hx1, rfl⟩

set_option maxHeartbeats 2000000 in
theorem bytes23 (a1 a2 a3 : Option Addr) (n m q c1 c2 c3 : Nat) (L1 : List (ByteArray × Int × Int)) (L2 : List (ByteArray × Int)) (L3 : List ByteArray) (w : World) (h1 : Row w a1 n 3 (L1.flatMap memF)) (h2 : Row w a2 m 2 (L2.flatMap srvF)) (h3 : Row w a3 q 1 (L3.flatMap strF)) :
    Calls Trym.prog 23 #[.slice a1 n c1, .slice a2 m c2, .slice a3 q c3] w (SomeBool w) := by
  have H1 := hide h1
  have H2 := hide h2
  have H3 := hide h3
  clear h1 h2 h3
  go_enter Trym.func23, Trym.ntmps23
  by_cases t1 : (1048576 : Int) < n
  · go_wp2
    go_ret
    exact .inl ⟨rfl, rfl⟩
  go_wp2
  go_loop [7, 8] (fun v i => ∃ (k : Nat) (x : Int), k ≤ n ∧ i = .int .i64 k ∧ v = .int .i64 x ∧ 0 ≤ x ∧ x ≤ 1048576) (fun _ i => n - (intOf i).toNat)
  case atStart => exact ⟨0, n, Nat.zero_le _, rfl, rfl, by omega, by omega⟩
  case round =>
  obtain ⟨k, x, hk, rfl, rfl, hx0, hx1⟩ := hrel
  by_cases hlt : k < n
  · obtain ⟨b, off, s, wt, no, rfl, hb', _, c1, _, _⟩ := H1.out.mem hlt
    have b1 : (k : Int) < (n : Int) := by omega
    by_cases hs : (1048576 : Int) < s.size
    · go_wp2
      go_ret
      exact .inl ⟨rfl, rfl⟩
    by_cases hx : 1048576 < x + s.size
    · go_wp2
      go_ret
      exact .inl ⟨rfl, rfl⟩
    go_wp2
    exact ⟨⟨k + 1, x + s.size, by omega, by go_num, rfl, by omega, by omega⟩, by simp [intOf]; omega⟩
  by_cases t2 : (1048576 : Int) < m
  · go_wp2
    go_ret
    exact .inl ⟨rfl, rfl⟩
  by_cases t3 : 1048576 < x + m
  · go_wp2
    go_ret
    exact .inl ⟨rfl, rfl⟩
  go_wp2
  go_loop [7, 9] (fun v i => ∃ (k : Nat) (x : Int), k ≤ m ∧ i = .int .i64 k ∧ v = .int .i64 x ∧ 0 ≤ x ∧ x ≤ 1048576) (fun _ i => m - (intOf i).toNat)
  case atStart => exact ⟨0, x + m, Nat.zero_le _, rfl, rfl, by omega, by omega⟩
  case round =>
  clear t3 hx0 hx1
  obtain ⟨k2, x2, hk2, rfl, rfl, hy0, hy1⟩ := hrel
  by_cases hlt2 : k2 < m
  · obtain ⟨b, off, s, wt, rfl, hb', _, c1, _⟩ := H2.out.srv hlt2
    have b1 : (k2 : Int) < (m : Int) := by omega
    by_cases hs : (1048576 : Int) < s.size
    · go_wp2
      go_ret
      exact .inl ⟨rfl, rfl⟩
    by_cases hx : 1048576 < x2 + s.size
    · go_wp2
      go_ret
      exact .inl ⟨rfl, rfl⟩
    go_wp2
    exact ⟨⟨k2 + 1, x2 + s.size, by omega, by go_num, rfl, by omega, by omega⟩, by simp [intOf]; omega⟩
  by_cases t4 : (1048576 : Int) < q
  · go_wp2
    go_ret
    exact .inl ⟨rfl, rfl⟩
  by_cases t5 : 1048576 < x2 + q
  · go_wp2
    go_ret
    exact .inl ⟨rfl, rfl⟩
  go_wp2
  go_loop [7, 10] (fun v i => ∃ (k : Nat) (x : Int), k ≤ q ∧ i = .int .i64 k ∧ v = .int .i64 x ∧ 0 ≤ x ∧ x ≤ 1048576) (fun _ i => q - (intOf i).toNat)
  case atStart => exact ⟨0, x2 + q, Nat.zero_le _, rfl, rfl, by omega, by omega⟩
  case round =>
  clear t5 hy0 hy1
  obtain ⟨k3, x3, hk3, rfl, rfl, hy0, hy1⟩ := hrel
  by_cases hlt3 : k3 < q
  · obtain ⟨b, off, s, rfl, hb', _, c1⟩ := H3.out.str hlt3
    have b1 : (k3 : Int) < (q : Int) := by omega
    by_cases hs : (1048576 : Int) < s.size
    · go_wp2
      go_ret
      exact .inl ⟨rfl, rfl⟩
    by_cases hx : 1048576 < x3 + s.size
    · go_wp2
      go_ret
      exact .inl ⟨rfl, rfl⟩
    go_wp2
    exact ⟨⟨k3 + 1, x3 + s.size, by omega, by go_num, rfl, by omega, by omega⟩, by simp [intOf]; omega⟩
  go_wp2
  go_ret
  exact .inr ⟨rfl, rfl⟩

set_option maxHeartbeats 2000000 in
theorem bytes35 (a1 a2 a3 : Option Addr) (n m q c1 c2 c3 : Nat) (L1 : List (ByteArray × Int × Int)) (L2 : List (ByteArray × Int)) (L3 : List ByteArray) (w : World) (h1 : Row w a1 n 3 (L1.flatMap memF)) (h2 : Row w a2 m 2 (L2.flatMap srvF)) (h3 : Row w a3 q 1 (L3.flatMap strF)) :
    Calls Trym.prog 35 #[.slice a1 n c1, .slice a2 m c2, .slice a3 q c3] w (SomeBool w) := by
  have H1 := hide h1
  have H2 := hide h2
  have H3 := hide h3
  clear h1 h2 h3
  go_enter Trym.func35, Trym.ntmps35
  by_cases t1 : (1048576 : Int) < n
  · go_wp2
    go_ret
    exact .inl ⟨rfl, rfl⟩
  go_wp2
  go_loop [7, 8] (fun v i => ∃ (k : Nat) (x : Int), k ≤ n ∧ i = .int .i64 k ∧ v = .int .i64 x ∧ 0 ≤ x ∧ x ≤ 1048576) (fun _ i => n - (intOf i).toNat)
  case atStart => exact ⟨0, n, Nat.zero_le _, rfl, rfl, by omega, by omega⟩
  case round =>
  obtain ⟨k, x, hk, rfl, rfl, hx0, hx1⟩ := hrel
  by_cases hlt : k < n
  · obtain ⟨b, off, s, wt, no, rfl, hb', _, c1, _, _⟩ := H1.out.mem hlt
    have b1 : (k : Int) < (n : Int) := by omega
    by_cases hs : (1048576 : Int) < s.size
    · go_wp2
      go_ret
      exact .inl ⟨rfl, rfl⟩
    by_cases hx : 1048576 < x + s.size
    · go_wp2
      go_ret
      exact .inl ⟨rfl, rfl⟩
    go_wp2
    exact ⟨⟨k + 1, x + s.size, by omega, by go_num, rfl, by omega, by omega⟩, by simp [intOf]; omega⟩
  by_cases t2 : (1048576 : Int) < m
  · go_wp2
    go_ret
    exact .inl ⟨rfl, rfl⟩
  by_cases t3 : 1048576 < x + m
  · go_wp2
    go_ret
    exact .inl ⟨rfl, rfl⟩
  go_wp2
  go_loop [7, 9] (fun v i => ∃ (k : Nat) (x : Int), k ≤ m ∧ i = .int .i64 k ∧ v = .int .i64 x ∧ 0 ≤ x ∧ x ≤ 1048576) (fun _ i => m - (intOf i).toNat)
  case atStart => exact ⟨0, x + m, Nat.zero_le _, rfl, rfl, by omega, by omega⟩
  case round =>
  clear t3 hx0 hx1
  obtain ⟨k2, x2, hk2, rfl, rfl, hy0, hy1⟩ := hrel
  by_cases hlt2 : k2 < m
  · obtain ⟨b, off, s, wt, rfl, hb', _, c1, _⟩ := H2.out.srv hlt2
    have b1 : (k2 : Int) < (m : Int) := by omega
    by_cases hs : (1048576 : Int) < s.size
    · go_wp2
      go_ret
      exact .inl ⟨rfl, rfl⟩
    by_cases hx : 1048576 < x2 + s.size
    · go_wp2
      go_ret
      exact .inl ⟨rfl, rfl⟩
    go_wp2
    exact ⟨⟨k2 + 1, x2 + s.size, by omega, by go_num, rfl, by omega, by omega⟩, by simp [intOf]; omega⟩
  by_cases t4 : (1048576 : Int) < q
  · go_wp2
    go_ret
    exact .inl ⟨rfl, rfl⟩
  by_cases t5 : 1048576 < x2 + q
  · go_wp2
    go_ret
    exact .inl ⟨rfl, rfl⟩
  go_wp2
  go_loop [7, 10] (fun v i => ∃ (k : Nat) (x : Int), k ≤ q ∧ i = .int .i64 k ∧ v = .int .i64 x ∧ 0 ≤ x ∧ x ≤ 1048576) (fun _ i => q - (intOf i).toNat)
  case atStart => exact ⟨0, x2 + q, Nat.zero_le _, rfl, rfl, by omega, by omega⟩
  case round =>
  clear t5 hy0 hy1
  obtain ⟨k3, x3, hk3, rfl, rfl, hy0, hy1⟩ := hrel
  by_cases hlt3 : k3 < q
  · obtain ⟨b, off, s, rfl, hb', _, c1⟩ := H3.out.str hlt3
    have b1 : (k3 : Int) < (q : Int) := by omega
    by_cases hs : (1048576 : Int) < s.size
    · go_wp2
      go_ret
      exact .inl ⟨rfl, rfl⟩
    by_cases hx : 1048576 < x3 + s.size
    · go_wp2
      go_ret
      exact .inl ⟨rfl, rfl⟩
    go_wp2
    exact ⟨⟨k3 + 1, x3 + s.size, by omega, by go_num, rfl, by omega, by omega⟩, by simp [intOf]; omega⟩
  go_wp2
  go_ret
  exact .inr ⟨rfl, rfl⟩

end Go.Proofs.Qxb6601991aMods
