/-
  zzMeetLess (58).
-/
import Derived.Test.Qxb6601991aModsWalk2
namespace Go.Proofs.Qxb6601991aMods
open Go.ChangeShapes Go.WideShapes Go.ChangeAt Go.RowKit
set_option linter.unusedVariables false

theorem wrap_small {n : Int} (h0 : 0 ≤ n) (h1 : n < 9223372036854775808) : wrap64 n = n := by unfold wrap64; omega
theorem wrap_sum {s k n : Nat} (h1 : s < n) (h2 : k < n) (hn : n ≤ 65536) : wrap64 ((s : Int) + k) = s + k := wrap_small (by omega) (by omega)
theorem wrap_lt {i n : Nat} (h1 : i < n) (hn : n ≤ 65536) : wrap64 (i : Int) = i := wrap_small (by omega) (by omega)
theorem dist_wrap (q p : Int) : dist q p = IntKind.u64.wrap (p - q) := by
  unfold dist IntKind.wrap
  simp [IntKind.signed, IntKind.bits]
def natF (x : Nat) : List Value := [.int .i64 x]
theorem Row.nat {w : World} {a : Option Addr} {n : Nat} {L : List Nat} (h : Row w a n 1 (L.flatMap natF)) {k : Nat} (hk : k < n) :
    ∃ b off x, a = some ⟨b, off, none⟩ ∧ b < w.heap.size ∧ L[k]? = some x ∧ w.cell? ⟨b, off + k, none⟩ = some (.int .i64 (x : Int)) := by
  obtain ⟨b, off, x, rfl, hb, hx, hc⟩ := h.at (fun _ => rfl) (by omega) hk
  exact ⟨b, off, x, rfl, hb, hx, by simpa [natF] using hc 0 (by omega)⟩
/-- The key of number e: probe e/n's meeting of its e%n-th point. -/
def meetKey (L : List (Int × Int)) (N : List ByteArray) (Q : List Int) (S : List Nat) (n e : Nat) : Int × List UInt8 := lapKey (ptKey L N) n (Q.getD (e / n) 0) (S.getD (e / n) 0) (e % n)

theorem bcell1 {W w1 : World} (hb : Below W.heap.size W w1) (b o : Nat) (h : b < W.heap.size) : w1.cell? ⟨b, o, none⟩ = W.cell? ⟨b, o, none⟩ := hb.cell (p := ⟨b, o, none⟩) h
/-- What the law reads for number e. -/
theorem meet_open {L : List (Int × Int)} {N : List ByteArray} {Q : List Int} {S : List Nat} {n m P x : Nat} {a1 a2 a3 a4 : Option Addr} {w : World} (h1 : Row w a1 n 2 (ptCells L)) (hwf : WfPts L) (h2 : Row w a2 m 1 (N.flatMap strF)) (hin : srvIn L m) (h3 : Row w a3 P 1 (Q.flatMap u64F)) (h4 : Row w a4 P 1 (S.flatMap natF))
    (hx : x < P * n) (hn : 0 < n) :
    ∃ (i k s g : Nat) (p v q : Int) (nm : ByteArray) (b1 o1 b2 o2 b3 o3 b4 o4 : Nat),
      i < P ∧ k < n ∧ g < n ∧ (x : Int).tdiv n = i ∧ (x : Int).tmod n = k ∧ ((s : Int) + k).tmod n = g ∧ meetKey L N Q S n x = (dist q p, nm.toList) ∧ 0 ≤ v ∧ v < m ∧ S[i]? = some s ∧
      a1 = some ⟨b1, o1, none⟩ ∧ b1 < w.heap.size ∧ w.cell? ⟨b1, o1 + g * 2, none⟩ = some (.int .u64 p) ∧ w.cell? ⟨b1, o1 + g * 2 + 1, none⟩ = some (.int .u32 v) ∧
      a2 = some ⟨b2, o2, none⟩ ∧ b2 < w.heap.size ∧ w.cell? ⟨b2, o2 + v.toNat, none⟩ = some (.string nm) ∧
      a3 = some ⟨b3, o3, none⟩ ∧ b3 < w.heap.size ∧ w.cell? ⟨b3, o3 + i, none⟩ = some (.int .u64 q) ∧
      a4 = some ⟨b4, o4, none⟩ ∧ b4 < w.heap.size ∧ w.cell? ⟨b4, o4 + i, none⟩ = some (.int .i64 s) := by
  have hi : x / n < P := Nat.div_lt_of_lt_mul (by rw [Nat.mul_comm]; exact hx)
  have hk : x % n < n := Nat.mod_lt _ hn
  obtain ⟨b3, o3, q, e3, l3, hq, c3⟩ := h3.u64 hi
  obtain ⟨b4, o4, s, e4, l4, hs, c4⟩ := h4.nat hi
  have hg : (s + x % n) % n < n := Nat.mod_lt _ hn
  obtain ⟨b1, o1, p, v, e1, l1, hp, c1, c1'⟩ := h1.pt hg
  have hw := hwf _ (by rw [h1.len]; exact hg)
  have hv := hin _ (by rw [h1.len]; exact hg)
  rw [hp] at hw hv
  obtain ⟨_, _, v0, _⟩ := hw
  simp only at v0 hv
  obtain ⟨b2, o2, nm, e2, l2, hnm, c2⟩ := h2.nameAt v0 hv
  refine ⟨x / n, x % n, s, (s + x % n) % n, p, v, q, nm, b1, o1, b2, o2, b3, o3, b4, o4, hi, hk, hg, (Int.ofNat_tdiv x n).symm, (Int.ofNat_tmod x n).symm, ?_, ?_, v0, hv, hs, e1, l1, c1, c1', e2, l2, c2, e3, l3, c3, e4, l4, c4⟩
  · rw [show (s : Int) + ((x % n : Nat) : Int) = ((s + x % n : Nat) : Int) by simp]
    exact (Int.ofNat_tmod (s + x % n) n).symm
  · unfold meetKey lapKey ptKey
    have eq : Q.getD (x / n) 0 = q := by rw [List.getD_eq_getElem?_getD, hq]; rfl
    have es : S.getD (x / n) 0 = s := by rw [List.getD_eq_getElem?_getD, hs]; rfl
    rw [eq, es, hp]
    simp only
    rw [hnm]

set_option maxRecDepth 100000 in
set_option maxHeartbeats 4000000 in
theorem less_any (a1 a2 a3 a4 : Option Addr) (n m P c1 c2 c3 c4 x y : Nat) (L : List (Int × Int)) (N : List ByteArray) (Q : List Int) (S : List Nat) (w : World) (h1 : Row w a1 n 2 (ptCells L)) (hwf : WfPts L) (h2 : Row w a2 m 1 (N.flatMap strF)) (hin : srvIn L m) (h3 : Row w a3 P 1 (Q.flatMap u64F)) (h4 : Row w a4 P 1 (S.flatMap natF))
    (hS : ∀ (i s : Nat), S[i]? = some s → s < n) (hx : x < P * n) (hy : y < P * n) (hn : 0 < n) (hn' : n ≤ 65536) (hP : P ≤ 4) (hm : m ≤ 1048576) :
    Calls Trym.prog 58 #[.slice a1 n c1, .slice a2 m c2, .slice a3 P c3, .slice a4 P c4, .int .i64 x, .int .i64 y] w fun e w' => e = .returned (.bool (lessK (meetKey L N Q S n x) (meetKey L N Q S n y))) ∧ Below w.heap.size w w' := by
  obtain ⟨j, k', s', g', p', v', q', nm', b1', o1', b2', o2', b3', o3', b4', o4', hy1⟩ := meet_open h1 hwf h2 hin h3 h4 hy hn
  have HY := hide hy1
  clear hy1
  obtain ⟨i, k, s, g, p, v, q, nm, b1, o1, b2, o2, b3, o3, b4, o4, hi, hk, hg, e1, e2, e3, hK, v0, v1, hs, rfl, l1, d1, d1', rfl, l2, d2, rfl, l3, d3, rfl, l4, d4⟩ := meet_open h1 hwf h2 hin h3 h4 hx hn
  have hs1 := hS _ _ hs
  have HS := hide hS
  have HK := hide hK
  have HD2 := hide d2
  have HD3 := hide d3
  clear hK hs h1 h2 h3 h4 hwf hin hS d2 d3
  have t1 : (i : Int) < (P : Int) := by omega
  have t3 : (g : Int) < (n : Int) := by omega
  have t9 : ¬ n = 0 := by omega
  have u1 : wrap64 (i : Int) = i := wrap_lt hi (Nat.le_trans hP (by decide))
  have u2 : wrap64 (k : Int) = k := wrap_lt hk hn'
  have u3 : wrap64 (g : Int) = g := wrap_lt hg hn'
  have u4 : wrap64 ((s : Int) + k) = s + k := wrap_sum hs1 hk hn'
  have z1 : b1 ≠ w.heap.size := by omega
  have z4 : b4 ≠ w.heap.size := by omega
  have HX := hide (And.intro v0 v1)
  have HM := hide (And.intro hP (And.intro hn' (And.intro hn hm)))
  clear hx hy hi hk hg hn hn' hP hm v0 v1 hs1
  go_enter Trym.func58, Trym.ntmps58
  go_wp2
  go_region
  clear u2 u3 u4 e2 e3 d1 d1' d4 z1 z4 t3
  have m0 : (w.alloc (Obj.cells #[Value.int IntKind.u64 p, Value.int IntKind.u32 v] 40)).drew.cell? ⟨w.heap.size, 0, none⟩ = some (.int .u64 p) := by simp [go_sem]
  have m1 : (w.alloc (Obj.cells #[Value.int IntKind.u64 p, Value.int IntKind.u32 v] 40)).drew.cell? ⟨w.heap.size, 1, none⟩ = some (.int .u32 v) := by simp [go_sem]
  have hb1 : Below w.heap.size w (w.alloc (Obj.cells #[Value.int IntKind.u64 p, Value.int IntKind.u32 v] 40)).drew := by go_grown
  have m2 : w.heap.size < (w.alloc (Obj.cells #[Value.int IntKind.u64 p, Value.int IntKind.u32 v] 40)).drew.heap.size := by simp
  generalize (w.alloc (Obj.cells #[Value.int IntKind.u64 p, Value.int IntKind.u32 v] 40)).drew = w1 at *
  obtain ⟨hi, hk, hg, e1', e2, e3, hK', v0', v1', hs, r1, _, f1, f1', r2, _, f2, r3, _, f3, r4, _, f4⟩ := HY.out
  cases r1
  cases r2
  cases r3
  cases r4
  have u5 : wrap64 (j : Int) = j := wrap_lt hi (Nat.le_trans HM.out.1 (by decide))
  have u6 : wrap64 (k' : Int) = k' := wrap_lt hk HM.out.2.1
  have u7 : wrap64 (g' : Int) = g' := wrap_lt hg HM.out.2.1
  have u8 : wrap64 ((s' : Int) + k') = s' + k' := wrap_sum (HS.out _ _ hs) hk HM.out.2.1
  have t4 : (g' : Int) < (n : Int) := Int.ofNat_lt.2 hg
  have t2 : (j : Int) < (P : Int) := Int.ofNat_lt.2 hi
  replace f1 := (bcell1 hb1 _ _ l1).trans f1
  replace f1' := (bcell1 hb1 _ _ l1).trans f1'
  replace f4 := (bcell1 hb1 _ _ l4).trans f4
  have HF2 := hide ((bcell1 hb1 _ _ l2).trans f2)
  have HF3 := hide ((bcell1 hb1 _ _ l3).trans f3)
  have HE2 := hide ((bcell1 hb1 _ _ l2).trans HD2.out)
  have HE3 := hide ((bcell1 hb1 _ _ l3).trans HD3.out)
  have HK' := hide hK'
  have HX' := hide (And.intro v0' v1')
  have hsz := hb1.size
  have z1 : b1' ≠ w1.heap.size := Nat.ne_of_lt (Nat.lt_of_lt_of_le l1 hsz)
  have z4 : b4' ≠ w1.heap.size := Nat.ne_of_lt (Nat.lt_of_lt_of_le l4 hsz)
  have l1' : b1' < w1.heap.size := Nat.lt_of_lt_of_le l1 hsz
  have l4' : b4' < w1.heap.size := Nat.lt_of_lt_of_le l4 hsz
  have HB1 := hide hb1
  clear HD2 HD3 HY hK' f2 f3 hs v0' v1' hb1 hi hk hg
  go_wp2
  go_region
  have n0 : (w1.alloc (Obj.cells #[Value.int IntKind.u64 p', Value.int IntKind.u32 v'] 40)).drew.cell? ⟨w1.heap.size, 0, none⟩ = some (.int .u64 p') := by simp [go_sem]
  have n1 : (w1.alloc (Obj.cells #[Value.int IntKind.u64 p', Value.int IntKind.u32 v'] 40)).drew.cell? ⟨w1.heap.size, 1, none⟩ = some (.int .u32 v') := by simp [go_sem]
  have hb2 : Below w1.heap.size w1 (w1.alloc (Obj.cells #[Value.int IntKind.u64 p', Value.int IntKind.u32 v'] 40)).drew := by go_grown
  generalize (w1.alloc (Obj.cells #[Value.int IntKind.u64 p', Value.int IntKind.u32 v'] 40)).drew = w2 at *
  replace m0 := (bcell1 hb2 _ _ m2).trans m0
  replace m1 := (bcell1 hb2 _ _ m2).trans m1
  have l2' : b2' < w1.heap.size := Nat.lt_of_lt_of_le l2 hsz
  have l3' : b3' < w1.heap.size := Nat.lt_of_lt_of_le l3 hsz
  have f2 := (bcell1 hb2 _ _ l2').trans HF2.out
  have f3 := (bcell1 hb2 _ _ l3').trans HF3.out
  have g2 := (bcell1 hb2 _ _ l2').trans HE2.out
  have g3 := (bcell1 hb2 _ _ l3').trans HE3.out
  have HB2 := hide (HB1.out.trans (hb2.mono HB1.out.size))
  obtain ⟨x1, x2⟩ := HX.out
  obtain ⟨x1', x2'⟩ := HX'.out
  clear HF2 HF3 HE2 HE3 hb2 f1 f1' f4 l1' l4' z1 z4 u6 u7 u8 e2 e3 t4 m2 hsz l1 l2 l3 l4 l2' l3' HB1 HX HX'
  by_cases hd : IntKind.u64.wrap (p - q) = IntKind.u64.wrap (p' - q')
  · have hd' : (IntKind.u64.wrap (p - q) != IntKind.u64.wrap (p' - q')) = false := by simp [hd]
    have HV := hide (show lessK (meetKey L N Q S n x) (meetKey L N Q S n y) = Op.bytesLess nm.toList nm'.toList by
      rw [HK.out, HK'.out]
      unfold lessK
      rw [dist_wrap, dist_wrap, if_pos hd])
    clear hd
    go_wp2
    go_quiet (fail)
    go_wp2
    go_quiet (fail)
    go_wp2
    go_quiet (fail)
    go_wp2
    go_ret
    rw [HV.out]
    exact ⟨rfl, below_draws (below_draws HB2.out _) _⟩
  · have hd' : (IntKind.u64.wrap (p - q) != IntKind.u64.wrap (p' - q')) = true := by simp [hd]
    have HV := hide (show lessK (meetKey L N Q S n x) (meetKey L N Q S n y) = decide (IntKind.u64.wrap (p - q) < IntKind.u64.wrap (p' - q')) by
      rw [HK.out, HK'.out]
      unfold lessK
      rw [dist_wrap, dist_wrap, if_neg hd])
    clear hd
    go_wp2
    go_quiet (fail)
    go_wp2
    go_quiet (fail)
    go_wp2
    go_ret
    rw [HV.out]
    exact ⟨rfl, below_draws HB2.out _⟩
end Go.Proofs.Qxb6601991aMods
