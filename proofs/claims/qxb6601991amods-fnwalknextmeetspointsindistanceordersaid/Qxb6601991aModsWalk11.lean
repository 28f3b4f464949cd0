/-
  zzNewWalk (43): the walk.
-/
import Derived.Test.Qxb6601991aModsWalk10
import Derived.Deep.DeepCutAuto
import Derived.Deep.CutBlock
import Derived.Deep.Light
namespace Go.Proofs.Qxb6601991aMods
open Go.ChangeShapes Go.WideShapes Go.ChangeAt Go.RowKit
set_option linter.unusedVariables false

theorem wrapI_small {n : Int} (h0 : 0 ≤ n) (h1 : n < 9223372036854775808) : IntKind.i64.wrap n = n := by
  unfold IntKind.wrap
  simp [IntKind.signed, IntKind.bits]
  omega
/-- A new walk: w0 is the world as the walk's block is laid. -/
def NewWalk (w w' : World) (gw m P : Nat) (L : List (Int × Int)) (N : List ByteArray) (Z : List Nat) (Q : List Int) (S : List Nat) : Prop :=
  ∃ (w0 : World) (gp gs : Nat) (a2 : Option Addr) (q : Nat → Int) (pg ix : Nat → Nat), Below w.heap.size w w0 ∧ w0.heap.size ≤ gw ∧ Below w0.heap.size w0 w' ∧ Pages w0 gp gs Z L ∧ Row w0 a2 m 1 (N.flatMap strF) ∧
    OB w' gw 115 ([.pointer (some ⟨gp, 0, none⟩), .slice a2 m m] ++ prCells q pg ix ++ [.int .i64 P, .bool false]) ∧ PrInv Z Q S q pg ix P

theorem nw_done {w wB wr : World} {gA g1 m k n P : Nat} {C : List Value} {L : List (Int × Int)} {N : List ByteArray} {Z : List Nat} {Q : List Int} {S : List Nat} {q : Nat → Int} {pg ix : Nat → Nat} (hB : Below w.heap.size w wB) (hb : Below wB.heap.size wB wr) (hob : OB wB g1 98 C) (hpi : PgInv wB g1 Z L C Z.length) (hon : OB wB gA 9 (N.flatMap strF)) (hN : N.length = m) (hpr : PrInv Z Q S q pg ix P)
    (hZn : Z.length = k) (hZ : Z.sum = n) (hL : L.length = n) (hn : n ≤ 65536) (hk : k ≤ 65536) (A : Obj) :
    NewWalk w (((wr.alloc A).alloc (.cells #[.slice (some ⟨g1, 0, none⟩) k k, .int .u64 0, .int .i64 n, .int .u32 0] 113)).alloc (.cells #[.pointer (some ⟨wr.heap.size + 1, 0, none⟩), .slice (some ⟨gA, 0, none⟩) m m, .int .u64 (q 0), .int .i64 (pg 0), .int .i64 (ix 0), .int .i64 0, .int .u64 (q 1), .int .i64 (pg 1), .int .i64 (ix 1), .int .i64 0, .int .u64 (q 2), .int .i64 (pg 2), .int .i64 (ix 2), .int .i64 0, .int .u64 (q 3), .int .i64 (pg 3), .int .i64 (ix 3), .int .i64 0, .int .i64 P, .bool false] 115)) (wr.heap.size + 2) m P L N Z Q S := by
  have hbA : Below wB.heap.size wB (wr.alloc A) := hb.alloc hb.size A
  have hbB : Below wB.heap.size wB ((wr.alloc A).alloc (.cells #[.slice (some ⟨g1, 0, none⟩) k k, .int .u64 0, .int .i64 n, .int .u32 0] 113)) := hbA.alloc hbA.size _
  have hc : OB ((wr.alloc A).alloc (.cells #[.slice (some ⟨g1, 0, none⟩) k k, .int .u64 0, .int .i64 n, .int .u32 0] 113)) (wr.heap.size + 1) 113 [.slice (some ⟨g1, 0, none⟩) Z.length Z.length, .int .u64 0, .int .i64 n, .int .u32 0] := by
    have h := OB.new (wr.alloc A) 113 [.slice (some ⟨g1, 0, none⟩) k k, .int .u64 0, .int .i64 n, .int .u32 0]
    rw [show (wr.alloc A).heap.size = wr.heap.size + 1 by simp] at h
    rw [hZn]
    exact h
  have hs2 : ((wr.alloc A).alloc (.cells #[.slice (some ⟨g1, 0, none⟩) k k, .int .u64 0, .int .i64 n, .int .u32 0] 113)).heap.size = wr.heap.size + 2 := by simp
  have hw : OB (((wr.alloc A).alloc (.cells #[.slice (some ⟨g1, 0, none⟩) k k, .int .u64 0, .int .i64 n, .int .u32 0] 113)).alloc (.cells #[.pointer (some ⟨wr.heap.size + 1, 0, none⟩), .slice (some ⟨gA, 0, none⟩) m m, .int .u64 (q 0), .int .i64 (pg 0), .int .i64 (ix 0), .int .i64 0, .int .u64 (q 1), .int .i64 (pg 1), .int .i64 (ix 1), .int .i64 0, .int .u64 (q 2), .int .i64 (pg 2), .int .i64 (ix 2), .int .i64 0, .int .u64 (q 3), .int .i64 (pg 3), .int .i64 (ix 3), .int .i64 0, .int .i64 P, .bool false] 115)) (wr.heap.size + 2) 115 ([.pointer (some ⟨wr.heap.size + 1, 0, none⟩), .slice (some ⟨gA, 0, none⟩) m m] ++ prCells q pg ix ++ [.int .i64 P, .bool false]) := by
    have h := OB.new ((wr.alloc A).alloc (.cells #[.slice (some ⟨g1, 0, none⟩) k k, .int .u64 0, .int .i64 n, .int .u32 0] 113)) 115 ([.pointer (some ⟨wr.heap.size + 1, 0, none⟩), .slice (some ⟨gA, 0, none⟩) m m] ++ prCells q pg ix ++ [.int .i64 P, .bool false])
    rw [hs2] at h
    exact h
  refine ⟨_, wr.heap.size + 1, g1, some ⟨gA, 0, none⟩, q, pg, ix, hB.trans (hbB.mono hB.size), by rw [hs2]; exact Nat.le_refl _, (Below.refl _ _).alloc (Nat.le_refl _) _, ?_, ?_, hw, hpr⟩
  · exact pages_of (hob.below hob.lt hbB) (hpi.below hbB) hc hZ (by omega) (by omega) hL
  · exact (hon.below hon.lt hbB).row' (by rw [str_len, hN]; omega)

set_option maxRecDepth 100000 in
set_option maxHeartbeats 8000000 in
theorem newwalk_any (a1 a2 a3 a4 a5 : Option Addr) (n m k P c1 c2 c3 c4 c5 : Nat) (L : List (Int × Int)) (N : List ByteArray) (Z : List Nat) (Q : List Int) (S : List Nat) (w : World)
    (h1 : Row w a1 n 2 (ptCells L)) (h2 : Row w a2 m 1 (N.flatMap strF)) (h3 : Row w a3 k 1 (Z.flatMap natF)) (h4 : Row w a4 P 1 (Q.flatMap u64F)) (h5 : Row w a5 P 1 (S.flatMap natF))
    (hS : ∀ (i s : Nat), S[i]? = some s → s < n) (hZ : Z.sum = n) (hn : n ≤ 65536) (hm : m ≤ 65536) (hk : k ≤ 65536) (hP : P ≤ 4) :
    Calls Trym.prog 43 #[.slice a1 n c1, .slice a2 m c2, .slice a3 k c3, .slice a4 P c4, .slice a5 P c5] w fun e w' => ∃ gw, e = .returned (.pointer (some ⟨gw, 0, none⟩)) ∧ NewWalk w w' gw m P L N Z Q S := by
  obtain ⟨i98, hi98, hz980, hz981, hz982⟩ := info_parts info98
  obtain ⟨i37, hi37, hz370, hz371, hz372⟩ := info_parts info37
  obtain ⟨i9, hi9, hz90, hz91, hz92⟩ := info_parts info9
  have H1 := hide h1
  have H2 := hide h2
  have H3 := hide h3
  have H4 := hide h4
  have H5 := hide h5
  have HS := hide hS
  have HZ := hide hZ
  have HLn := hide h1.len
  have HZn := hide (natZ_len h3)
  have HI98 := hide (And.intro hi98 (And.intro hz980 (And.intro hz981 hz982)))
  have HI37 := hide (And.intro hi37 (And.intro hz370 (And.intro hz371 hz372)))
  have HI9 := hide (And.intro hi9 (And.intro hz90 (And.intro hz91 hz92)))
  clear h1 h2 h3 h4 h5 hS hZ hi98 hz980 hz981 hz982 hi37 hz370 hz371 hz372 hi9 hz90 hz91 hz92
  go_enter Trym.func43, Trym.ntmps43
  go_wp2_with (at_make; refine wpList_make_ob2 _ rfl _ _ 95 rfl 98 i98 (.agg #[.slice none 0 0, .slice none 0 0]) 2 Trym.underlying95 HI98.out.1 HI98.out.2.1 HI98.out.2.2.1 .i64 .i64 _ _ k k rfl rfl rfl rfl (Nat.le_refl _) (by rw [HI98.out.2.2.2]; omega) (by omega) ?_; intro w1 o1 b1)
  have hlen : (madeCells (Value.agg #[.slice none 0 0, .slice none 0 0]).cells (k * 2)).toList.length = Z.length * 2 := by rw [HZn.out]; simp [madeCells]
  generalize (madeCells (Value.agg #[.slice none 0 0, .slice none 0 0]).cells (k * 2)).toList = C0 at *
  go_loopw [12, 13] (fun vo vk wr => ∃ (kk o : Nat) (C : List Value), kk ≤ k ∧ vk = .int .i64 kk ∧ vo = .int .i64 o ∧ o = offOf Z kk ∧ OB wr w.heap.size 98 C ∧ PgInv wr w.heap.size Z L C kk ∧ Below w.heap.size w wr) (fun _ vk _ => k - (intOf vk).toNat)
  case atStart => exact ⟨0, 0, C0, Nat.zero_le _, rfl, rfl, (off_zero Z).symm, o1, PgInv.start _ _ _ _ _ hlen, b1⟩
  case round =>
  clear o1 b1 hlen
  obtain ⟨kk, o, C, hkk, rfl, rfl, ho, hob, hpi, hbel⟩ := hrel
  by_cases hlt : kk < k
  · obtain ⟨b3, o3, z, e3, l3, hz, d3⟩ := (H3.out.below hbel).nat hlt
    have hoz : o + z ≤ n := by
      have h6 := off_le Z (kk + 1)
      rw [off_succ hz, ← ho, HZ.out] at h6
      exact h6
    have hzb : (z : Int) ≤ 65536 := by omega
    subst e3
    have t1 : (kk : Int) < (k : Int) := by omega
    have HOB := hide hob
    have HPI := hide hpi
    have HBE := hide hbel
    have HO := hide ho
    have HZK := hide hz
    clear hob hpi hbel ho hz
    go_wp2_with (at_make; refine wpList_make_ob2 _ rfl _ _ 30 rfl 37 i37 (.agg #[.int .u64 0, .int .u32 0]) 2 Trym.underlying30 HI37.out.1 HI37.out.2.1 HI37.out.2.2.1 .i64 .i64 _ _ z z rfl rfl rfl rfl (Nat.le_refl _) (by rw [HI37.out.2.2.2]; omega) (by omega) ?_; intro w2 o2 b2)
    rw [show (Value.agg #[Value.int .u64 0, Value.int .u32 0]).cells = #[Value.int .u64 0, Value.int .u32 0] from rfl, made_pts] at o2
    obtain ⟨wq, rfl⟩ : ∃ x, x = wr := ⟨_, rfl⟩
    have hgq := HOB.out.lt
    go_loopw [15] (fun vj wx => ∃ (j : Nat) (M : List (Int × Int)), j ≤ z ∧ vj = .int .i64 j ∧ M.length = z ∧ (∀ i, i < j → M.getD i (0, 0) = L.getD (o + i) (0, 0)) ∧ OB wx wq.heap.size 37 (ptCells M) ∧ Below wq.heap.size wq wx) (fun vj _ => z - (intOf vj).toNat)
    case atStart => exact ⟨0, _, Nat.zero_le _, rfl, by simp, fun i hi => by omega, o2, b2⟩
    case round =>
    clear o2 b2
    obtain ⟨j, M, hj, rfl, hM, hag, hox, hbx⟩ := hrel
    have d3x := (bcell1 hbx b3 (o3 + kk) l3).trans d3
    have l3x : b3 < wr.heap.size := Nat.lt_of_lt_of_le l3 hbx.size
    by_cases hjz : j < z
    · obtain ⟨t, ht⟩ : ∃ t, t = o + j := ⟨_, rfl⟩
      obtain ⟨b1, o1, p, s, e1, l1, hp, d1, d2⟩ := (H1.out.below (HBE.out.trans (hbx.mono HBE.out.size))).pt (k := t) (by omega)
      cases e1
      have vv6 : (t : Int) < (n : Int) := by omega
      have vv7 : (j : Int) < (z : Int) := by omega
      obtain ⟨x1, f1⟩ := hox.some (j := j * 2) (by rw [ptCells_length]; omega)
      obtain ⟨x2, f2⟩ := hox.some (j := j * 2 + 1) (by rw [ptCells_length]; omega)
      have g1 := hox.frozen (j * 2)
      have g2 := hox.frozen (j * 2 + 1)
      have hz : wq.heap.size < wr.heap.size := hox.lt
      have hz2 : wq.heap.size ≠ wr.heap.size := by omega
      have hz3 : b1 ≠ wr.heap.size := by omega
      have R := hide (ob_round (k := j) (p := p) (s := s) (o := Obj.cells #[Value.int IntKind.u64 p, Value.int IntKind.u32 s] 37) hox (by omega) hbx (Nat.le_refl _) (by omega))
      have ST := hide (seg_step (k := j) (o := o) (pt := (p, s)) (by omega) (by rw [← ht]; exact hp) hag)
      have hst : IntKind.i64.wrap ((o : Int) + (j : Int)) = (t : Int) := by
        have e : (o : Int) + (j : Int) = (t : Int) := by omega
        have e0 : (0 : Int) ≤ t := by omega
        have e1 : (t : Int) < 9223372036854775808 := by omega
        rw [e]
        exact wrapI_small e0 e1
      have HM := hide hM
      clear hox hbx hM hag hp ht
      go_wp2
      go_region_with (go_at_call 18; refine (mkPoint _ _ _).mono ?_; rintro e w' ⟨rfl, rfl⟩)
      all_goals
        clear hst
        go_wp2
        refine ⟨⟨j + 1, M.set j (p, s), by omega, by go_num, by rw [List.length_set]; exact HM.out, ST.out, R.out.1, R.out.2⟩, by simp [intOf]; omega⟩
    · have eM : M = (L.drop o).take z := seg_ext hM (by rw [HLn.out]; exact hoz) (fun i hi => hag i (by omega))
      subst eM
      have hsg := hox
      rw [HO.out] at hsg
      have PR := hide (fun (o : Obj) (v : Value) => pg_round (w := w) HOB.out hbx HPI.out HZK.out hsg (Nat.le_refl _) HBE.out (Nat.le_refl _) o v)
      have hl0 := HPI.out.1
      have obx := HOB.out.below hgq hbx
      obtain ⟨x1, f1⟩ := obx.some (j := kk * 2) (by rw [hl0, HZn.out]; omega)
      obtain ⟨x2, f2⟩ := obx.some (j := kk * 2 + 1) (by rw [hl0, HZn.out]; omega)
      have g1 := obx.frozen (kk * 2)
      have g2 := obx.frozen (kk * 2 + 1)
      have hgx := obx.lt
      have n1 : w.heap.size ≠ wr.heap.size := by omega
      have n2 : b3 ≠ wr.heap.size := by omega
      have n3 : b3 ≠ w.heap.size := by
        intro e
        have := H3.out.2 (by omega)
        obtain ⟨b, off, e5, l5, _⟩ := this
        cases e5
        omega
      have hjz2 : ¬ (j : Int) < (z : Int) := by omega
      have HOO := hide (show o + z = offOf Z (kk + 1) by rw [off_succ HZK.out, ← HO.out])
      clear hox hbx hag hM hsg obx HOB HPI hl0
      go_wp2_with fail
      refine (mkPage _ _ _).mono ?_
      rintro e w' ⟨rfl, rfl⟩
      go_wp2
      obtain ⟨q1, q2, q3⟩ := PR.out (.cells #[.slice none 0 0, .slice (some ⟨wq.heap.size, 0, none⟩) z z] 98) (.slice none 0 0)
      exact ⟨⟨kk + 1, o + z, _, by omega, by go_num, by go_num, HOO.out, q1, q2, q3⟩, by simp [intOf]; omega⟩
  · have ekk : kk = Z.length := by rw [HZn.out]; omega
    have HPI := hide (show PgInv wr w.heap.size Z L C Z.length by rw [← ekk]; exact hpi)
    have HOB := hide hob
    have HBE := hide hbel
    have hgx := hob.lt
    have hlt2 : ¬ (kk : Int) < (k : Int) := by omega
    clear hob hpi hbel ekk ho
    obtain ⟨wA, rfl⟩ : ∃ x, x = wr := ⟨_, rfl⟩
    go_wp2_with (at_make; refine wpList_make_ob2 _ rfl _ _ 47 rfl 9 i9 (.string ⟨#[]⟩) 1 Trym.underlying47 HI9.out.1 HI9.out.2.1 HI9.out.2.2.1 .i64 .i64 _ _ m m rfl rfl rfl rfl (Nat.le_refl _) (by rw [HI9.out.2.2.2]; omega) (by omega) ?_; intro w2 o2 b2)
    rw [show (Value.string ⟨#[]⟩).cells = #[Value.string ⟨#[]⟩] from rfl, Nat.mul_one, made_strs] at o2
    clear hlt2 hlt hkk HI98 HI37 HI9
    go_loopw [17] (fun v wr => ∃ (i : Nat) (M : List ByteArray), i ≤ m ∧ v = .int .i64 i ∧ M.length = m ∧ (∀ j, j < i → M[j]? = N[j]?) ∧ OB wr wA.heap.size 9 (M.flatMap strF) ∧ Below wA.heap.size wA wr) (fun v _ => m - (intOf v).toNat)
    case atStart => exact ⟨0, _, Nat.zero_le _, rfl, by simp, fun j hj => by omega, o2, b2⟩
    case round =>
    clear o2 b2
    obtain ⟨i, M, hi, rfl, hM, hj, hob, hbel⟩ := hrel
    by_cases him : i < m
    · obtain ⟨b, off, s, hx, hb, hp, d1⟩ := (H2.out.below (HBE.out.trans (hbel.mono HBE.out.size))).str him
      cases hx
      obtain ⟨u, d2⟩ := hob.some (j := i) (by rw [str_len]; omega)
      have f2 := hob.frozen i
      have t1 : (i : Int) < (m : Int) := by omega
      have ST := hide (get_step (by omega) hp hj)
      have HO2 := hide hob
      have HB2 := hide hbel
      have HM := hide hM
      clear hob hbel hM hj hp
      go_wp2
      exact ⟨⟨i + 1, M.set i s, by omega, by go_num, by rw [List.length_set]; exact HM.out, ST.out, by rw [str_set]; exact HO2.out.set i _, HB2.out.setCell (Nat.le_refl _) _⟩, by simp [intOf]; omega⟩
    · have eM : M = N := get_ext hM (H2.out.llen (fun _ => rfl) (by omega)) (fun j hjn => hj j (by omega))
      subst eM
      have t1 : ¬ (i : Int) < (m : Int) := by omega
      have HON := hide hob
      have HBN := hide hbel
      have hPg2 := hide (HPI.out.below hbel)
      have hOb2 := hide (HOB.out.below hgx hbel)
      have hBe2 := hide (HBE.out.trans (hbel.mono HBE.out.size))
      have hgn := hob.lt
      clear hob hbel hM hj HPI HOB HBE
      obtain ⟨wB, rfl⟩ : ∃ x, x = wr := ⟨_, rfl⟩
      go_wp2
      have o4 : OB (wB.alloc (.cells #[.int .u64 0, .int .i64 0, .int .i64 0, .int .i64 0, .int .u64 0, .int .i64 0, .int .i64 0, .int .i64 0, .int .u64 0, .int .i64 0, .int .i64 0, .int .i64 0, .int .u64 0, .int .i64 0, .int .i64 0, .int .i64 0] 102)) wB.heap.size 102 (prCells (fun _ => 0) (fun _ => 0) (fun _ => 0)) := OB.new wB 102 (prCells (fun _ => 0) (fun _ => 0) (fun _ => 0))
      have b4 : Below wB.heap.size wB (wB.alloc (.cells #[.int .u64 0, .int .i64 0, .int .i64 0, .int .i64 0, .int .u64 0, .int .i64 0, .int .i64 0, .int .i64 0, .int .u64 0, .int .i64 0, .int .i64 0, .int .i64 0, .int .u64 0, .int .i64 0, .int .i64 0, .int .i64 0] 102)) := (Below.refl _ _).alloc (Nat.le_refl _) _
      generalize wB.alloc (.cells #[.int .u64 0, .int .i64 0, .int .i64 0, .int .i64 0, .int .u64 0, .int .i64 0, .int .i64 0, .int .i64 0, .int .u64 0, .int .i64 0, .int .i64 0, .int .i64 0, .int .u64 0, .int .i64 0, .int .i64 0, .int .i64 0] 102) = wC at *
      clear t1 hi him
      go_loopw [19] (fun v wx => ∃ (i : Nat) (q : Nat → Int) (pg ix : Nat → Nat), i ≤ P ∧ v = .int .i64 i ∧ OB wx wB.heap.size 102 (prCells q pg ix) ∧ PrInv Z Q S q pg ix i ∧ Below wB.heap.size wB wx) (fun v _ => P - (intOf v).toNat)
      case atStart => exact ⟨0, _, _, _, Nat.zero_le _, rfl, o4, fun j hj => by omega, b4⟩
      case round =>
      clear o4 b4
      obtain ⟨i, q, pg, ix, hi, rfl, ho4, hpr, hb4⟩ := hrel
      have hbw := hBe2.out.trans (hb4.mono hBe2.out.size)
      by_cases hiP : i < P
      · obtain ⟨b5, o5, s, e5, l5, hs, d5⟩ := (H5.out.below hbw).nat hiP
        obtain ⟨b6, o6, q', e6, l6, hq, d6⟩ := (H4.out.below hbw).u64 hiP
        subst e5
        subst e6
        have LC := hide (locate_any a3 k c3 s Z wr (H3.out.below hbw) (by omega) (by rw [HZ.out]; omega) (by rw [HZ.out]; exact HS.out i s hs))
        have hi4 : i < 4 := by omega
        obtain ⟨y0, f0⟩ := ho4.some (j := i * 4) (by rw [pr_len]; omega)
        obtain ⟨y1, f1⟩ := ho4.some (j := i * 4 + 1) (by rw [pr_len]; omega)
        obtain ⟨y2, f2⟩ := ho4.some (j := i * 4 + 2) (by rw [pr_len]; omega)
        obtain ⟨y3, f3⟩ := ho4.some (j := i * 4 + 3) (by rw [pr_len]; omega)
        have g0 := ho4.frozen (i * 4)
        have g1 := ho4.frozen (i * 4 + 1)
        have g2 := ho4.frozen (i * 4 + 2)
        have g3 := ho4.frozen (i * 4 + 3)
        have l4 := ho4.lt
        have n4 : wB.heap.size ≠ wr.heap.size := by omega
        have n6 : b6 ≠ wr.heap.size := by omega
        have t1 : (i : Int) < (P : Int) := by omega
        have t2 : (i : Int) < 4 := by omega
        have HO4 := hide ho4
        have HPR := hide hpr
        have HB4 := hide hb4
        have HQ := hide hq
        have HSI := hide hs
        clear ho4 hpr hb4 hbw hq hs
        go_wp2_with fail
        refine LC.out.mono ?_
        rintro e w' ⟨p, x, rfl, hl, hw⟩
        rw [hw]
        have HLI := hide hl
        clear hl hw
        go_wp2_with fail
        refine (mkProbe _ _ _ _ _).mono ?_
        rintro e w' ⟨rfl, rfl⟩
        go_wp2
        exact ⟨⟨i + 1, _, _, _, by omega, by go_num, pr_put HO4.out hi4 q' p x _, HPR.out.step HQ.out HSI.out HLI.out, ((((HB4.out.setCell (Nat.le_refl _) _).setCell (Nat.le_refl _) _).setCell (Nat.le_refl _) _).setCell (Nat.le_refl _) _).alloc (by simpa using HB4.out.size) _⟩, by simp [intOf]; omega⟩
      · have eiP : i = P := by omega
        have t1 : ¬ (i : Int) < (P : Int) := by omega
        have k0 : wr.cell? ⟨wB.heap.size, 0, none⟩ = some (.int .u64 (q 0)) := ho4.cell 0
        have k1 : wr.cell? ⟨wB.heap.size, 1, none⟩ = some (.int .i64 (pg 0)) := ho4.cell 1
        have k2 : wr.cell? ⟨wB.heap.size, 2, none⟩ = some (.int .i64 (ix 0)) := ho4.cell 2
        have k3 : wr.cell? ⟨wB.heap.size, 3, none⟩ = some (.int .i64 0) := ho4.cell 3
        have k4 : wr.cell? ⟨wB.heap.size, 4, none⟩ = some (.int .u64 (q 1)) := ho4.cell 4
        have k5 : wr.cell? ⟨wB.heap.size, 5, none⟩ = some (.int .i64 (pg 1)) := ho4.cell 5
        have k6 : wr.cell? ⟨wB.heap.size, 6, none⟩ = some (.int .i64 (ix 1)) := ho4.cell 6
        have k7 : wr.cell? ⟨wB.heap.size, 7, none⟩ = some (.int .i64 0) := ho4.cell 7
        have k8 : wr.cell? ⟨wB.heap.size, 8, none⟩ = some (.int .u64 (q 2)) := ho4.cell 8
        have k9 : wr.cell? ⟨wB.heap.size, 9, none⟩ = some (.int .i64 (pg 2)) := ho4.cell 9
        have k10 : wr.cell? ⟨wB.heap.size, 10, none⟩ = some (.int .i64 (ix 2)) := ho4.cell 10
        have k11 : wr.cell? ⟨wB.heap.size, 11, none⟩ = some (.int .i64 0) := ho4.cell 11
        have k12 : wr.cell? ⟨wB.heap.size, 12, none⟩ = some (.int .u64 (q 3)) := ho4.cell 12
        have k13 : wr.cell? ⟨wB.heap.size, 13, none⟩ = some (.int .i64 (pg 3)) := ho4.cell 13
        have k14 : wr.cell? ⟨wB.heap.size, 14, none⟩ = some (.int .i64 (ix 3)) := ho4.cell 14
        have k15 : wr.cell? ⟨wB.heap.size, 15, none⟩ = some (.int .i64 0) := ho4.cell 15
        have ND := hide (fun (A : Obj) => nw_done (P := P) hBe2.out hb4 hOb2.out hPg2.out HON.out (H2.out.llen (fun _ => rfl) (by omega)) (by rw [← eiP]; exact hpr) HZn.out HZ.out HLn.out hn hk A)
        have l4 := ho4.lt
        clear ho4 hpr hb4 hbw eiP
        go_wp2_with fail
        refine (mkWalk _ _ _ _ _ _ _ _ _ _ _ _ _ _ _ _ _ _ _ _ _ _ _).mono ?_
        rintro e w' ⟨rfl, rfl⟩
        go_wp2
        go_ret
        exact ⟨_, rfl, ND.out _⟩
end Go.Proofs.Qxb6601991aMods
