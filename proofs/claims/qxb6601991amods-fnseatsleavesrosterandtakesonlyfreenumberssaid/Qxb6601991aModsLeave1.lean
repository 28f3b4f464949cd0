/-
  FnSeatsLeavesRosterAndTakesOnlyFreeNumbers (6): the walk.
-/
import Derived.Test.Qxb6601991aModsSeat6
import Derived.Test.Qxb6601991aModsLeave0
namespace Go.Proofs.Qxb6601991aMods
open Go.ChangeShapes Go.WideShapes Go.ChangeAt Go.RowKit
set_option linter.unusedVariables false

theorem bel_on {w8 wr X : World} {B : Nat} (h : Below B w8 wr) (hB : B ≤ w8.heap.size) (hx : Below wr.heap.size wr X) : Below B w8 X := h.trans (hx.mono (Nat.le_trans hB h.size))
theorem empty_yes {x : ByteArray} (h : x = noName) : x.toList.isEmpty = true := by rw [h, ByteArray.toList_eq]; rfl
theorem empty_no {x : ByteArray} (hem : x ≠ noName) : x.toList.isEmpty = false := by
  rw [ByteArray.toList_eq]
  refine Bool.eq_false_iff.2 fun h => hem ?_
  have : x.data.toList = [] := by simpa using h
  cases x; simp only [Array.toList_eq_nil_iff] at this; subst this; rfl
/-- Which of the servers are added. -/
def adds (L : List (ByteArray × Int × Int)) (C : List (ByteArray × Int)) : List Bool := C.map fun c => (last L c.1).isNone
theorem adds_get {L : List (ByteArray × Int × Int)} {C : List (ByteArray × Int)} {k : Nat} {c : ByteArray × Int} (hx : C[k]? = some c) : (adds L C)[k]? = some (last L c.1).isNone := by
  unfold adds; rw [List.getElem?_map, hx]; rfl
theorem made_bools (n : Nat) : (madeCells #[Value.bool false] n).toList = (List.replicate n false).map Value.bool := by
  rw [toList_madeCells_one]; simp
theorem four (w : World) (o1 o2 o3 : Obj) (x y : Value) {X : World} (hX : X = (((w.alloc (.cells #[x, y] 70)).alloc o1).alloc o2).alloc o3) :
    X.cell? ⟨w.heap.size, 0, none⟩ = some x ∧ X.cell? ⟨w.heap.size, 1, none⟩ = some y ∧ w.heap.size < X.heap.size ∧ Below w.heap.size w X := by
  subst hX
  have hb : Below (w.alloc (.cells #[x, y] 70)).heap.size (w.alloc (.cells #[x, y] 70)) ((((w.alloc (.cells #[x, y] 70)).alloc o1).alloc o2).alloc o3) :=
    (((Below.refl _ _).alloc (Nat.le_refl _) _).alloc (by simp) _).alloc (by simp only [World.size_alloc]; omega) _
  have hl : w.heap.size < (w.alloc (.cells #[x, y] 70)).heap.size := by simp
  have hc := cells_new w 70 [x, y]
  exact ⟨(hb.cell (p := ⟨w.heap.size, 0, none⟩) hl).trans (hc 0 x rfl), (hb.cell (p := ⟨w.heap.size, 1, none⟩) hl).trans (hc 1 y rfl), Nat.lt_of_lt_of_le hl hb.size, ((Below.refl _ _).alloc (Nat.le_refl _) _).trans (hb.mono (Nat.le_of_lt hl))⟩
theorem mark {B g : Nat} {w w1 : World} {M : List Bool} (h : OB w1 g 4 (M.map Value.bool)) (hb : Below B w w1) (hB : B ≤ g) (o : Obj) (k : Nat) (u : Bool) :
    OB ((w1.setCell ⟨g, k, none⟩ (.bool u)).alloc o) g 4 ((M.set k u).map Value.bool) ∧ Below B w ((w1.setCell ⟨g, k, none⟩ (.bool u)).alloc o) := by
  refine ⟨?_, (hb.setCell hB _).alloc (by have := h.lt; simp; omega) o⟩
  rw [List.map_set]
  exact (h.set k _).alloc o

set_option maxRecDepth 100000 in
set_option maxHeartbeats 8000000 in
theorem sl_main (a0 a1 a2 : Option Addr) (p m n c0 c1 c2 : Nat) (L : List (ByteArray × Int × Int)) (C : List (ByteArray × Int)) (N : List ByteArray) (w : World) (h0 : Row w a0 p 3 (L.flatMap memF)) (h1 : Row w a1 m 2 (C.flatMap srvF)) (h2 : Row w a2 n 1 (N.flatMap strF)) (ha : a2 = none → n = 0 ∧ c2 = 0)
    (hp : p ≤ 4096) (hm : m ≤ 4096) (hn : n ≤ 4096) :
    Calls Trym.prog 6 #[.slice a0 p c0, .slice a1 m c1, .slice a2 n c2] w fun e w' => e = .returned (.bool true) ∧ Below w.heap.size w w' := by
  obtain ⟨i4, hi4, hz40, hz41, hz42⟩ := info_parts info4
  have hCl : C.length = m := h1.llen (fun _ => rfl) (by omega)
  have hNl : N.length = n := h2.llen (fun _ => rfl) (by omega)
  have H0 := hide h0
  have H1 := hide h1
  have H2 := hide h2
  have HA := hide ha
  have HCl := hide hCl
  have HNl := hide hNl
  clear h0 h1 h2 ha hCl hNl
  have t1 : (p : Int) ≤ 4096 := by omega
  have t2 : (m : Int) ≤ 4096 := by omega
  have t3 : (n : Int) ≤ 4096 := by omega
  go_enter Trym.func6, Trym.ntmps6
  go_wp2_with fail
  refine (bytes35 a0 a1 a2 p m n c0 c1 c2 L C N w H0.out H1.out H2.out).mono ?_
  rintro e w0 (⟨rfl, rfl⟩ | ⟨rfl, rfl⟩)
  · go_wp2
    go_ret
    exact ⟨rfl, Below.refl _ _⟩
  go_wp2_with fail
  refine (mems_any 0 a0 p c0 L w0 H0.out (by omega)).mono ?_
  rintro e w1 ⟨x1, rfl, hx1, hx1', rfl⟩
  go_wp2_with fail
  refine (srvs_any x1 a1 m c1 C w1 H1.out hx1).mono ?_
  rintro e w2 ⟨x2, rfl, hx2, hx2', rfl⟩
  go_wp2_with fail
  refine (strs_any x2 a2 n c2 N w2 H2.out hx2).mono ?_
  rintro e w3 ⟨x3, rfl, hx3, hx3', rfl⟩
  by_cases hx : 1048576 < x3
  · go_wp2
    go_ret
    exact ⟨rfl, Below.refl _ _⟩
  go_wp2_with fail
  refine (cloneS_any a2 n c2 N w3 H2.out HA.out (by omega)).mono ?_
  rintro e w4 ⟨a3, c3, rfl, hr4, ha4, hb4⟩
  have HR4 := hide hr4
  have HA4 := hide ha4
  have HB4 := hide hb4
  clear hr4 ha4 hb4 hx hx1 hx2 hx3 hx1' hx2' hx3' HA
  go_wp2_with fail
  refine (rosterMap a0 p c0 L w4 (H0.out.below HB4.out) (by omega)).mono ?_
  rintro e w5 ⟨bm, rfl, hbm, hmb, hb5⟩
  have HB5 := hide (HB4.out.trans (hb5.mono HB4.out.size))
  have HR5 := hide (HR4.out.below hb5)
  have HMB := hide hmb
  clear HB4 HR4 hmb hb5 hbm
  have hlen5 := HMB.out.len
  go_wp2_with fail
  clear hlen5
  refine (mkRoster bm w5).mono ?_
  rintro e w6 ⟨rfl, hw6⟩
  have hb6 : Below w5.heap.size w5 w6 := by rw [hw6]; exact (Below.refl _ _).alloc (Nat.le_refl _) _
  have hob6 : OB w6 w5.heap.size 91 [.map (some bm), .map none, .int .i64 0] := by rw [hw6]; exact OB.new w5 91 [.map (some bm), .map none, .int .i64 0]
  have HB6 := hide (HB5.out.trans (hb6.mono HB5.out.size))
  have HR6 := hide (HR5.out.below hb6)
  have HMB6 := hide (HMB.out.below HMB.out.lt hb6)
  have HOR6 := hide hob6
  clear hw6 hb6 hob6 HB5 HR5 HMB
  go_wp2_with fail
  refine (servers a1 m c1 C w6 (H1.out.below HB6.out) (by omega)).mono ?_
  rintro e w7 ⟨gc, rfl, hgc, hoc, hb7⟩
  have HB7 := hide (HB6.out.trans (hb7.mono HB6.out.size))
  have HR7 := hide (HR6.out.below hb7)
  have HMB7 := hide (HMB6.out.below HMB6.out.lt hb7)
  have HOR7 := hide (HOR6.out.below HOR6.out.lt hb7)
  have HOC := hide hoc
  clear HB6 HR6 HMB6 HOR6 hoc hb7 hgc
  go_wp2_with fail
  refine (zzSeats (seats_any a3 n c3 w5.heap.size gc bm m m (roster L) N C w7 HR7.out HA4.out hn hm HCl.out HOC.out HOR7.out HMB7.out) (fun e w' ⟨gs, v, S, h, _⟩ => ⟨_, _, h⟩)).mono ?_
  rintro e w8 ⟨gs, v, S, rfl, hS, hoS, hseats, hown, hb8⟩
  obtain ⟨av, cv, rfl, hrv, _⟩ := own_shape9 hown
  have HB8 := hide (HB7.out.trans (hb8.mono HB7.out.size))
  have HR8 := hide (HR7.out.below hb8)
  have HMB8 := hide (HMB7.out.below HMB7.out.lt hb8)
  have HSl := hide hS
  have HoS := hide hoS
  have HSS := hide hseats
  have HRV := hide hrv
  clear HB7 HR7 HMB7 HOR7 HOC hb8 hown hrv hoS hseats hS
  obtain ⟨hnf1, hnf2⟩ := after_len (roster L) N C
  have hnf3 := after_bound L C N
  rw [HNl.out] at hnf1 hnf2 hnf3
  rw [HCl.out] at hnf2
  have HAK := hide (fun (k : Nat) (x : ByteArray) (h1 : N[k]? = some x) (h2 : x ≠ noName) => after_keep (E := roster L) C h1 h2)
  have HOLT := hide (fun (i : Nat) (c : ByteArray × Int) (h1 : C[i]? = some c) (h2 : last L c.1 = none) => off_lt (N := N) h1 h2)
  have HONM := hide (fun (i : Nat) (c : ByteArray × Int) (h1 : C[i]? = some c) (h2 : last L c.1 = none) (h3 : c.1 ≠ noName) => off_name (N := N) h1 h2 h3)
  generalize namesAfter (roster L) N C = NF at *
  have hlen8 := HMB8.out.len
  go_wp2
  clear hlen8
  go_loopw [12] (fun i wr => ∃ k : Nat, k ≤ p ∧ i = .int .i64 k ∧ Below w8.heap.size w8 wr) (fun i _ => p - (intOf i).toNat)
  case atStart => exact ⟨0, Nat.zero_le _, rfl, Below.refl _ _⟩
  case round =>
  obtain ⟨k, hk, rfl, hbel⟩ := hrel
  have HB := hide hbel
  clear hbel
  by_cases hlt : k < p
  · --R1
    have hrow := H0.out.below (HB8.out.trans (HB.out.mono HB8.out.size))
    obtain ⟨b, off, s, wt, no, rfl, hb, hx, c1, c2, c3⟩ := hrow.mem hlt
    have HLT := hide (later_any _ p c0 k L wr hrow (by omega) hlt)
    have b1 : (k : Int) < (p : Int) := by omega
    have HX := hide hx
    clear hrow hx
    go_wp2_with fail
    refine HLT.out.mono ?_
    rintro e w9 (⟨rfl, q, rfl⟩ | ⟨rfl, hno, q, rfl⟩)
    · go_wp2
      exact ⟨⟨k + 1, by omega, by go_num, below_draws HB.out _⟩, by simp [intOf]; omega⟩
    · have hl : look (roster L) s = some (wt, no) := by rw [look_roster]; exact last_step HX.out (fun j x hj hxx => hno j x (s, wt, no) hj hxx HX.out)
      have hrun := run_look ((HMB8.out.below HMB8.out.lt HB.out).draws q) s
      replace HB := hide (below_draws HB.out q)
      replace hb : b < (wr.drewN q).heap.size := hb
      replace c1 : (wr.drewN q).cell? ⟨b, off + k * 3, none⟩ = some (.string s) := c1
      replace c2 : (wr.drewN q).cell? ⟨b, off + k * 3 + 1, none⟩ = some (.int .i64 wt) := c2
      replace c3 : (wr.drewN q).cell? ⟨b, off + k * 3 + 2, none⟩ = some (.int .u32 no) := c3
      clear hno HLT
      generalize wr.drewN q = wr at *
      rw [hl] at hrun
      simp only [seatAt, Option.getD_some, Option.isSome_some] at hrun
      have nb : b ≠ wr.heap.size := by omega
      clear hl
      go_wp2
      have HBv := hide (HB.out.alloc HB.out.size (Obj.cells #[Value.int IntKind.i64 wt, Value.int IntKind.u32 no] 70))
      have s1 : b < (wr.alloc (Obj.cells #[Value.int IntKind.i64 wt, Value.int IntKind.u32 no] 70)).heap.size := by rw [World.size_alloc]; omega
      have s2 : wr.heap.size < (wr.alloc (Obj.cells #[Value.int IntKind.i64 wt, Value.int IntKind.u32 no] 70)).heap.size := by rw [World.size_alloc]; omega
      have s3 : (wr.alloc (Obj.cells #[Value.int IntKind.i64 wt, Value.int IntKind.u32 no] 70)).cell? ⟨b, off + k * 3 + 1, none⟩ = some (.int .i64 wt) := by simp [go_sem, *]
      have s4 : (wr.alloc (Obj.cells #[Value.int IntKind.i64 wt, Value.int IntKind.u32 no] 70)).cell? ⟨b, off + k * 3 + 2, none⟩ = some (.int .u32 no) := by simp [go_sem, *]
      have s5 : (wr.alloc (Obj.cells #[Value.int IntKind.i64 wt, Value.int IntKind.u32 no] 70)).cell? ⟨wr.heap.size, 0, none⟩ = some (.int .i64 wt) := by simp [go_sem, *]
      have s6 : (wr.alloc (Obj.cells #[Value.int IntKind.i64 wt, Value.int IntKind.u32 no] 70)).cell? ⟨wr.heap.size, 1, none⟩ = some (.int .u32 no) := by simp [go_sem, *]
      clear HB hrun c1 c2 c3 hb nb
      generalize (wr.alloc (Obj.cells #[Value.int IntKind.i64 wt, Value.int IntKind.u32 no] 70)) = wv at *
      generalize wr.heap.size = gn at *
      go_region_held3 (fun w' => b < w'.heap.size ∧ gn < w'.heap.size ∧ w'.cell? ⟨b, off + k * 3 + 1, none⟩ = some (.int .i64 wt) ∧ w'.cell? ⟨b, off + k * 3 + 2, none⟩ = some (.int .u32 no) ∧ w'.cell? ⟨gn, 0, none⟩ = some (.int .i64 wt) ∧ w'.cell? ⟨gn, 1, none⟩ = some (.int .u32 no)) (first | (simp [go_sem, *]; done) | (simp [go_sem, *]; omega)) ((first | (go_at_call 33; refine (seatWx _ _ _).mono ?_; rintro e w' ⟨rfl, rfl⟩) | (go_at_call 34; refine (seatNx _ _ _).mono ?_; rintro e w' ⟨rfl, rfl⟩)))
      go_wp2
      refine ⟨⟨k + 1, by omega, by go_num, ?_⟩, by simp [intOf]; omega⟩
      exact bel_on HBv.out (Nat.le_refl _) (by go_grown)
  have HR9 := hide (HR8.out.below HB.out)
  have HRV9 := hide (HRV.out.below HB.out)
  have t4 : (n : Int) ≤ (NF.length : Int) := by omega
  go_wp2
  clear hlt hk
  obtain ⟨wa, rfl⟩ : ∃ x, x = wr := ⟨_, rfl⟩
  go_loopw [15] (fun i wr' => ∃ t : Nat, t ≤ n ∧ i = .int .i64 t ∧ ∃ q, wr' = wa.drewN q) (fun i _ => n - (intOf i).toNat)
  case atStart => exact ⟨0, Nat.zero_le _, rfl, 0, rfl⟩
  case round =>
  obtain ⟨t, ht, rfl, q, rfl⟩ := hrel
  by_cases hlt : t < n
  · --R2
    obtain ⟨b, off, x, rfl, _, hx1, d1⟩ := HR9.out.str hlt
    obtain ⟨b', off', x', rfl, _, hx2, d2⟩ := HRV9.out.str (k := t) (by omega)
    have b1 : (t : Int) < (n : Int) := by omega
    have b2 : (t : Int) < (NF.length : Int) := by omega
    by_cases hem : x = noName
    · have hem' := empty_yes hem
      clear hem hx1 hx2
      go_wp2
      go_quiet (fail)
      go_wp2
      exact ⟨⟨t + 1, by omega, by go_num, _, rfl⟩, by simp [intOf]; omega⟩
    · have hem' := empty_no hem
      have h3 := HAK.out t x hx1 hem
      rw [hx2] at h3
      have e : x' = x := by simpa using h3
      clear hem hx1 hx2 h3
      subst e
      have hxx : (x'.toList == x'.toList) = true := by simp
      go_wp2
      go_quiet (fail)
      go_wp2
      exact ⟨⟨t + 1, by omega, by go_num, _, rfl⟩, by simp [intOf]; omega⟩
  have HBx := hide (below_draws HB.out q)
  clear HR9 HRV9 HB HAK
  generalize wa.drewN q = wx at *
  go_wp2_with (at_make; refine wpList_make_ob _ rfl _ _ 23 rfl 4 i4 (.bool false) 1 Trym.underlying23 hi4 hz40 hz41 .i64 .i64 _ _ m m rfl rfl rfl rfl (Nat.le_refl _) (by rw [hz42]; omega) (by omega) ?_; intro w10 o10 b10)
  rw [show (Value.bool false).cells = #[Value.bool false] from rfl, Nat.mul_one, made_bools] at o10
  clear hlt ht hi4 hz40 hz41 hz42
  go_loopw [17, 18] (fun c i wr => ∃ (t : Nat) (M : List Bool), t ≤ m ∧ i = .int .i64 t ∧ c = .int .i64 (added L (C.take t)) ∧ M.length = m ∧ (∀ j, j < t → M[j]? = (adds L C)[j]?) ∧ OB wr wx.heap.size 4 (M.map Value.bool) ∧ Below wx.heap.size wx wr) (fun _ i _ => m - (intOf i).toNat)
  case atStart => exact ⟨0, _, Nat.zero_le _, rfl, by simp [added], by simp, fun j hj => by omega, o10, b10⟩
  case round =>
  obtain ⟨t, M, htm, rfl, rfl, hM, hj, hob, hbel⟩ := hrel
  clear o10 b10
  have HBw := hide (bel_on HBx.out (Nat.le_refl _) hbel)
  by_cases hlt : t < m
  · --R3
    have hb8 := HB8.out.trans (HBw.out.mono HB8.out.size)
    obtain ⟨b, off, s, wt, rfl, hlb, hps, c1, _⟩ := (H1.out.below hb8).srv hlt
    have HLK := hide (lookup_any a0 p c0 L s wr (H0.out.below hb8) (by omega))
    have b1 : (t : Int) < (m : Int) := by omega
    have hal := added_le L C t
    have S' := hide (get_step (M := M) (L := adds L C) (by omega) (adds_get hps) hj)
    have HAD := hide (added_snoc (L := L) hps)
    have HO := hide hob
    have HM := hide hM
    have HBE := hide hbel
    clear hob hM hj hps hbel hb8
    generalize added L (C.take t) = ad at *
    go_wp2_with fail
    refine HLK.out.mono ?_
    rintro e w11 ⟨rfl, hb11⟩
    have hob1 := HO.out.below HO.out.lt hb11
    have hbb := HBE.out.trans (hb11.mono HBE.out.size)
    obtain ⟨u, c2⟩ := hob1.some (j := t) (by rw [List.length_map, HM.out]; exact hlt)
    have f2 := hob1.frozen t
    have hgl : wx.heap.size < w11.heap.size := hob1.lt
    have ngl : wx.heap.size ≠ w11.heap.size := by omega
    have HMK := hide (fun (o : Obj) (u : Bool) => mark hob1 hbb (Nat.le_refl _) o t u)
    clear hob1 hbb hb11 c1 HLK
    cases hla : last L s with
    | some v =>
      simp only [hla, Option.isNone_some] at S' HAD
      clear hla
      simp only [lookVal]
      go_wp2
      refine ⟨⟨t + 1, _, by omega, by go_num, by rw [HAD.out]; simp, by rw [List.length_set]; exact HM.out, S'.out, (HMK.out _ false).1, (HMK.out _ false).2⟩, by simp [intOf]; omega⟩
    | none =>
      simp only [hla, Option.isNone_none] at S' HAD
      clear hla
      simp only [lookVal]
      go_wp2
      refine ⟨⟨t + 1, _, by omega, by go_num, by rw [HAD.out]; go_num, by rw [List.length_set]; exact HM.out, S'.out, (HMK.out _ true).1, (HMK.out _ true).2⟩, by simp [intOf]; omega⟩
  have et : t = m := by omega
  subst et
  have eM : M = adds L C := get_ext (n := t) hM (by unfold adds; rw [List.length_map]; exact HCl.out) hj
  subst eM
  have htk : C.take t = C := List.take_of_length_le (by rw [HCl.out]; exact Nat.le_refl _)
  have hal := added_le L C t
  rw [htk] at hal
  rw [htk]
  clear htk hM hj HBx
  generalize added L C = ad at *
  have t6 : (NF.length : Int) ≤ (n : Int) + (ad : Int) := by omega
  have t7 : (ad : Int) ≤ 4096 := by omega
  have HOA := hide hob
  clear hob hbel
  generalize wx.heap.size = ga at *
  obtain ⟨wz, rfl⟩ : ∃ x, x = wr := ⟨_, rfl⟩
  go_wp2
  clear hlt htm
  go_loopw [21] (fun i wr => ∃ i' : Nat, i' ≤ t ∧ i = .int .i64 i' ∧ Below wz.heap.size wz wr) (fun i _ => t - (intOf i).toNat)
  case atStart => exact ⟨0, Nat.zero_le _, rfl, Below.refl _ _⟩
  case round =>
  obtain ⟨i, him, rfl, hbel⟩ := hrel
  have HBr := hide (bel_on HBw.out (Nat.le_refl _) hbel)
  have HOAr := hide (HOA.out.below HOA.out.lt hbel)
  have HBE := hide hbel
  clear hbel
  by_cases hlt : i < t
  · have hb8 := HB8.out.trans (HBr.out.mono HB8.out.size)
    obtain ⟨b, off, s, wt, rfl, hlb, hps, c1, _⟩ := (H1.out.below hb8).srv hlt
    have e1 := HOAr.out.cell i
    rw [List.getElem?_map, adds_get hps] at e1
    have b1 : (i : Int) < (t : Int) := by omega
    cases hla : last L s with
    | some v =>
      simp only [hla, Option.isNone_some, Option.map_some] at e1
      clear hps hb8 hla
      go_wp2
      exact ⟨⟨i + 1, by omega, by go_num, HBE.out⟩, by simp [intOf]; omega⟩
    | none =>
      simp only [hla, Option.isNone_none, Option.map_some] at e1
      have hst := HSS.out i _ hps
      rw [off_step hla] at hst
      have hf1 := HOLT.out i _ hps hla
      have hf2 : ∀ s', N[firstFree (namesAfter (roster L) N (C.take i))]? = some s' → s' = noName := fun s' h => off_free h
      have hf3 : s ≠ noName → _ := fun h => HONM.out i _ hps hla h
      have hf4 : ∀ (j : Nat) (d : ByteArray × Int), C[j]? = some d → j < i → last L d.1 = none → d.1 ≠ noName → firstFree (namesAfter (roster L) N (C.take j)) ≠ firstFree (namesAfter (roster L) N (C.take i)) := fun j d h1 h2 h3 h4 => off_apart h1 h2 h3 h4
      simp only at hst hf3
      generalize firstFree (namesAfter (roster L) N (C.take i)) = f at *
      obtain ⟨gb, go, x, y, e, hgl, hxy, d1, d2⟩ := ((HoS.out.below HoS.out.lt HBr.out).row' (n := t) (sz := 2) (by rw [seat_len, HSl.out])).seat hlt
      cases e
      rw [Nat.zero_add] at d1 d2
      rw [hst] at hxy
      cases hxy
      have b2 : (f : Int) < (NF.length : Int) := by omega
      have b3 : (NF.length : Int) ≤ 8192 := by omega
      have hga : ga < wr.heap.size := HOAr.out.lt
      have HF2 := hide hf2
      have HF3 := hide hf3
      have HF4 := hide hf4
      clear hst hf1 hf2 hf3 hf4 hla hps hb8
      go_wp2_with fail
      refine (seatWx _ _ _).mono ?_
      rintro e w' ⟨rfl, rfl⟩
      go_wp2_with fail
      refine (seatNx _ _ _).mono ?_
      rintro e w' ⟨rfl, rfl⟩
      go_wp2_with fail
      refine (seatNx _ _ _).mono ?_
      rintro e wv ⟨rfl, hwv⟩
      obtain ⟨k0, k1, hsv, hbv⟩ := four wr _ _ _ _ _ hwv
      have c1' : wv.cell? ⟨b, off + i * 2, none⟩ = some (.string s) := (hbv.cell (p := ⟨b, off + i * 2, none⟩) hlb).trans c1
      have hlb2 : b < wv.heap.size := by omega
      have HBV := hide (bel_on HBr.out (Nat.le_refl _) hbv)
      have HBEV := hide (bel_on HBE.out (Nat.le_refl _) hbv)
      have HOAV := hide (HOAr.out.below HOAr.out.lt hbv)
      have HGS := hide (HoS.out.below HoS.out.lt HBV.out)
      clear hwv hlb c1 e1 d1 d2 hbv hga hgl
      generalize wr.heap.size = gn at k0 k1 hsv ⊢
      have hrn := HR8.out.below HBV.out
      have hrv := HRV.out.below HBV.out
      by_cases hem : s = noName
      · have hem' := empty_yes hem
        clear hem
        by_cases hfn : f < n
        · obtain ⟨b', off', x, rfl, hlb', hx1, d3⟩ := hrn.str hfn
          have hxe := empty_yes (HF2.out x hx1)
          have b4 : (f : Int) < (n : Int) := by omega
          clear hx1 hrn hrv
          go_wp2
          refine ⟨⟨i + 1, by omega, by go_num, bel_on HBEV.out (Nat.le_refl _) (Below.refl _ _)⟩, by simp [intOf]; omega⟩
        · have b4 : (n : Int) ≤ (f : Int) := by omega
          clear hrn hrv
          go_wp2
          refine ⟨⟨i + 1, by omega, by go_num, bel_on HBEV.out (Nat.le_refl _) (Below.refl _ _)⟩, by simp [intOf]; omega⟩
      · have hem' := empty_no hem
        have hnf := HF3.out hem
        obtain ⟨b'', off'', x'', rfl, hlb'', hx2, d4⟩ := hrv.str (k := f) (by omega)
        rw [hnf] at hx2
        have e : s = x'' := by simpa using hx2
        clear hx2 hnf
        subst e
        have hxx : (s.toList == s.toList) = true := by simp
        have HEM := hide hem
        clear hem hrv
        by_cases hfn : f < n
        case' pos =>
          obtain ⟨b', off', x, rfl, hlb', hx1, d3⟩ := hrn.str hfn
          have hxe := empty_yes (HF2.out x hx1)
          have b4 : (f : Int) < (n : Int) := by omega
          clear hx1 hrn
          go_wp2
        case' neg =>
          have b4 : (n : Int) ≤ (f : Int) := by omega
          clear hrn
          go_wp2
        all_goals
          go_quiet (fail)
          go_wp2
          clear HBr HOAr HBE
          obtain ⟨wo, rfl⟩ : ∃ x, x = wr := ⟨_, rfl⟩
          go_loopw [24] (fun jv wr' => ∃ j : Nat, j ≤ i ∧ jv = .int .i64 j ∧ Below wv.heap.size wv wr') (fun jv _ => i - (intOf jv).toNat)
          case atStart => exact ⟨0, Nat.zero_le _, rfl, below_draws (Below.refl _ _) _⟩
          case round =>
          obtain ⟨j, hji, rfl, hbj⟩ := hrel
          have HBJ := hide hbj
          clear hbj
          by_cases hlj : j < i
          · have hB8 := bel_on HBV.out (Nat.le_refl _) HBJ.out
            have hB0 := HB8.out.trans (hB8.mono HB8.out.size)
            obtain ⟨b5, off5, s5, wt5, e5, hlb5, hps5, c5, _⟩ := (H1.out.below hB0).srv (k := j) (by omega)
            have e6 : b5 = b ∧ off5 = off := by simpa [eq_comm] using e5
            rw [e6.1, e6.2] at c5
            rw [e6.1] at hlb5
            clear e5 e6 c1'
            have hoa5 := HOAV.out.below HOAV.out.lt HBJ.out
            have e7 := hoa5.cell j
            have hga5 : ga < wr.heap.size := hoa5.lt
            rw [List.getElem?_map, adds_get hps5] at e7
            have b7 : (j : Int) < (i : Int) := by omega
            have b8 : (j : Int) < (t : Int) := by omega
            cases hl5 : last L s5 with
            | some v =>
              simp only [hl5, Option.isNone_some, Option.map_some] at e7
              clear hB8 hB0 hps5 hl5 hoa5
              go_wp2
              go_quiet (fail)
              go_wp2
              exact ⟨⟨j + 1, by omega, by go_num, below_draws HBJ.out _⟩, by simp [intOf]; omega⟩
            | none =>
              simp only [hl5, Option.isNone_none, Option.map_some] at e7
              by_cases hem5 : s5 = noName
              · have hem6 := empty_yes hem5
                clear hB8 hB0 hps5 hl5 hoa5 hem5
                go_wp2
                go_quiet (fail)
                go_wp2
                exact ⟨⟨j + 1, by omega, by go_num, below_draws HBJ.out _⟩, by simp [intOf]; omega⟩
              · have hem6 := empty_no hem5
                have hne5 := HF4.out j _ hps5 hlj hl5 hem5
                have hst5 := HSS.out j _ hps5
                rw [off_step hl5] at hst5
                simp only at hst5
                generalize firstFree (namesAfter (roster L) N (C.take j)) = f5 at hne5 hst5
                obtain ⟨gb, go, x5, y5, e, hgl5, hxy, d1, d2⟩ := ((HGS.out.below HGS.out.lt HBJ.out).row' (n := t) (sz := 2) (by rw [seat_len, HSl.out])).seat (k := j) (by omega)
                cases e
                rw [Nat.zero_add] at d1 d2
                rw [hst5] at hxy
                cases hxy
                have hnn : ((f5 : Int) == (f : Int)) = false := by simp; omega
                have k2 : wr.cell? ⟨gn, 0, none⟩ = some (.int .i64 0) := (HBJ.out.cell (p := ⟨gn, 0, none⟩) hsv).trans k0
                have k3 : wr.cell? ⟨gn, 1, none⟩ = some (.int .u32 f) := (HBJ.out.cell (p := ⟨gn, 1, none⟩) hsv).trans k1
                have hgn5 : gn < wr.heap.size := Nat.lt_of_lt_of_le hsv HBJ.out.size
                clear hB8 hB0 hps5 hl5 hoa5 hem5 hst5 hne5 d4 k0 k1
                go_wp2
                go_region_held3 (fun w' => ga < w'.heap.size ∧ b < w'.heap.size ∧ gs < w'.heap.size ∧ gn < w'.heap.size ∧ w'.cell? ⟨ga, j, none⟩ = some (.bool true) ∧ w'.cell? ⟨b, off + j * 2, none⟩ = some (.string s5) ∧ w'.cell? ⟨gs, j * 2, none⟩ = some (.int .i64 0) ∧ w'.cell? ⟨gs, j * 2 + 1, none⟩ = some (.int .u32 f5) ∧ w'.cell? ⟨gn, 0, none⟩ = some (.int .i64 0) ∧ w'.cell? ⟨gn, 1, none⟩ = some (.int .u32 f)) (first | (simp [go_sem, *]; done) | (simp [go_sem, *]; omega)) ((go_at_call 34; refine (seatNx _ _ _).mono ?_; rintro e w' ⟨rfl, rfl⟩))
                go_wp2
                refine ⟨⟨j + 1, by omega, by go_num, bel_on HBJ.out (Nat.le_refl _) (by go_grown)⟩, by simp [intOf]; omega⟩
          · go_wp2
            refine ⟨⟨i + 1, by omega, by go_num, bel_on HBEV.out (Nat.le_refl _) HBJ.out⟩, by simp [intOf]; omega⟩
  · go_wp2
    go_ret
    exact ⟨rfl, HB8.out.trans (HBr.out.mono HB8.out.size)⟩
end Go.Proofs.Qxb6601991aMods
