/-
  FnSeatsGivesSittingSeatsAndLowestFreeNumbers (5): the walk.
-/
import Derived.Test.Qxb6601991aModsSeat5
namespace Go.Proofs.Qxb6601991aMods
open Go.ChangeShapes Go.WideShapes Go.ChangeAt Go.RowKit
set_option linter.unusedVariables false

/-- 'make([]T, n, c)': the block with all its cells. -/
theorem wpList_make_ob {P : Program} (w : World) {ops : Array Oper} {rest : List Oper} {o : Oper} {a : Act} {Q : Exit → Act → World → Prop}
    (hg : o.guard = none) (l c : Operand) (t : TypeId) (hop : o.op = Op.makeSlice t l c)
    (e : TypeId) (i : TypeInfo) (z : Value) (size : Nat) (h1 : P.underlying t = some (.slice e)) (h2 : P.info? e = some i) (h3 : i.zero = some z) (h4 : i.size = size)
    (kl kc : IntKind) (L C : Int) (n m : Nat) (hl : a.eval l = .int kl L) (hc : a.eval c = .int kc C) (hL : L = (n : Int)) (hC : C = (m : Int)) (hnm : n ≤ m) (b2 : i.bytes * m ≤ 281474976710656) (b3 : m ≤ 1048576)
    (hK : ∀ w', OB w' w.heap.size e (madeCells z.cells (m * size)).toList → Below w.heap.size w w' → wpList P ops Q rest (a.put o.dst (.slice (some ⟨w.heap.size, 0, none⟩) n m)) w') :
    wpList P ops Q (o :: rest) a w := by
  refine wpList_plain hg fun K hK' => ?_
  subst hL
  subst hC
  subst h4
  have hb' : (i.bytes : Int) * (m : Int) ≤ 281474976710656 := by
    have h : ((i.bytes * m : Nat) : Int) ≤ 281474976710656 := by omega
    rwa [Int.natCast_mul] at h
  have hr := run_make (P := P) w t e i z h1 h2 h3 kl kc n m (by omega) (by omega) hb' (by omega)
  simp only [Int.toNat_natCast] at hr
  unfold Oper.wp
  simp [execOp, hop, hl, hc, hr, Result.andThen]
  refine hK' _ _ (hK _ ?_ ((Below.refl _ _).alloc (Nat.le_refl _) _))
  have := OB.new w e (madeCells z.cells (m * i.size)).toList
  simpa using this

/-- The clone of the names, whatever they are. -/
theorem cloneS_any (a : Option Addr) (n c : Nat) (L : List ByteArray) (w : World) (hr : Row w a n 1 (L.flatMap strF)) (ha : a = none → n = 0 ∧ c = 0) (hn : n ≤ 1048576) :
    Calls Trym.prog 27 #[.slice a n c] w fun e w' => ∃ a' c', e = .returned (.slice a' n c') ∧ Row w' a' n 1 (L.flatMap strF) ∧ (a' = none → n = 0 ∧ c' = 0) ∧ Below w.heap.size w w' := by
  cases a with
  | none =>
    obtain ⟨rfl, rfl⟩ := ha rfl
    refine (cloneS_nil w).mono ?_
    rintro e w' ⟨rfl, rfl⟩
    exact ⟨none, 0, rfl, hr, ha, Below.refl _ _⟩
  | some x =>
    refine (cloneS_some x n c L w hr hn).mono ?_
    rintro e w' ⟨g, rfl, _, hob, hb⟩
    refine ⟨_, _, rfl, hob.row' (by rw [str_len, hr.llen (fun _ => rfl) (by omega)]; omega), fun h => ?_, hb⟩
    cases h

theorem of_below {w8 w10 X : World} {base e n : Nat} {v : Value} {xs : List Value} (h : w10.ownsRow base e 1 v n xs) (hb : Below w8.heap.size w8 w10) (hx : Below w10.heap.size w10 X) : X.ownsRow base e 1 v n xs ∧ Below w8.heap.size w8 X :=
  ⟨own_kept h hx, hb.trans (hx.mono hb.size)⟩
theorem cells_newb (w : World) (o : Obj) (t : TypeId) (l : List Value) : ∀ (j : Nat) (u : Value), l[j]? = some u → ((w.alloc o).alloc (.cells l.toArray t)).cell? ((⟨w.heap.size + 1, 0, none⟩ : Addr).add j) = some u := by
  have := cells_new (w.alloc o) t l
  rwa [World.size_alloc] at this
/-- A name takes a place within the names. -/
theorem cur_in {w8 w10 : World} {g f c : Nat} {Nk : List ByteArray} {s : ByteArray} (h : w10.ownsRow w8.heap.size 9 1 (.slice (some ⟨g, 0, none⟩) Nk.length c) Nk.length (Nk.flatMap strF)) (hb : Below w8.heap.size w8 w10) (hg : w8.heap.size ≤ g) :
    (w10.setCell ⟨g, f, none⟩ (.string s)).ownsRow w8.heap.size 9 1 (.slice (some ⟨g, 0, none⟩) Nk.length c) Nk.length ((Nk.set f s).flatMap strF) ∧ Below w8.heap.size w8 (w10.setCell ⟨g, f, none⟩ (.string s)) := by
  obtain ⟨h1, h2⟩ := h.stored f (.string s)
  rw [← str_set] at h1
  exact ⟨h1, hb.setCell hg _⟩

set_option maxRecDepth 100000 in
set_option maxHeartbeats 8000000 in
theorem sg_main (a0 a1 a2 : Option Addr) (p m n c0 c1 c2 : Nat) (L : List (ByteArray × Int × Int)) (C : List (ByteArray × Int)) (N : List ByteArray) (w : World) (h0 : Row w a0 p 3 (L.flatMap memF)) (h1 : Row w a1 m 2 (C.flatMap srvF)) (h2 : Row w a2 n 1 (N.flatMap strF)) (ha : a2 = none → n = 0 ∧ c2 = 0)
    (hp : p ≤ 4096) (hm : m ≤ 4096) (hn : n ≤ 4096) :
    Calls Trym.prog 5 #[.slice a0 p c0, .slice a1 m c1, .slice a2 n c2] w fun e w' => e = .returned (.bool true) ∧ Below w.heap.size w w' := by
  obtain ⟨i9, hi9, hz90, hz91, hz92⟩ := info_parts info9
  have hCl : C.length = m := h1.llen (fun _ => rfl) (by omega)
  have hNl : N.length = n := h2.llen (fun _ => rfl) (by omega)
  have H0 := hide h0
  have H1 := hide h1
  have H2 := hide h2
  have HA := hide ha
  have HCl := hide hCl
  have HNl := hide hNl
  clear h0 h1 h2 ha hCl hNl
  have t1 : (p : Int) ≤ 4096 := by omega
  have t2 : (m : Int) ≤ 4096 := by omega
  have t3 : (n : Int) ≤ 4096 := by omega
  go_enter Trym.func5, Trym.ntmps5
  go_wp2_with fail
  refine (bytes23 a0 a1 a2 p m n c0 c1 c2 L C N w H0.out H1.out H2.out).mono ?_
  rintro e w0 (⟨rfl, rfl⟩ | ⟨rfl, rfl⟩)
  · go_wp2
    go_ret
    exact ⟨rfl, Below.refl _ _⟩
  go_wp2_with fail
  refine (mems_any 0 a0 p c0 L w0 H0.out (by omega)).mono ?_
  rintro e w1 ⟨x1, rfl, hx1, hx1', rfl⟩
  go_wp2_with fail
  refine (srvs_any x1 a1 m c1 C w1 H1.out hx1).mono ?_
  rintro e w2 ⟨x2, rfl, hx2, hx2', rfl⟩
  go_wp2_with fail
  refine (strs_any x2 a2 n c2 N w2 H2.out hx2).mono ?_
  rintro e w3 ⟨x3, rfl, hx3, hx3', rfl⟩
  by_cases hx : 1048576 < x3
  · go_wp2
    go_ret
    exact ⟨rfl, Below.refl _ _⟩
  go_wp2_with fail
  refine (cloneS_any a2 n c2 N w3 H2.out HA.out (by omega)).mono ?_
  rintro e w4 ⟨a3, c3, rfl, hr4, ha4, hb4⟩
  have HR4 := hide hr4
  have HA4 := hide ha4
  have HB4 := hide hb4
  clear hr4 ha4 hb4 hx hx1 hx2 hx3 hx1' hx2' hx3' HA
  go_wp2_with fail
  refine (rosterMap a0 p c0 L w4 (H0.out.below HB4.out) (by omega)).mono ?_
  rintro e w5 ⟨bm, rfl, hbm, hmb, hb5⟩
  have HB5 := hide (HB4.out.trans (hb5.mono HB4.out.size))
  have HR5 := hide (HR4.out.below hb5)
  have HMB := hide hmb
  clear HB4 HR4 hmb hb5 hbm
  go_wp2_with fail
  refine (mkRoster bm w5).mono ?_
  rintro e w6 ⟨rfl, hw6⟩
  have hb6 : Below w5.heap.size w5 w6 := by rw [hw6]; exact (Below.refl _ _).alloc (Nat.le_refl _) _
  have hob6 : OB w6 w5.heap.size 91 [.map (some bm), .map none, .int .i64 0] := by rw [hw6]; exact OB.new w5 91 [.map (some bm), .map none, .int .i64 0]
  have HB6 := hide (HB5.out.trans (hb6.mono HB5.out.size))
  have HR6 := hide (HR5.out.below hb6)
  have HMB6 := hide (HMB.out.below HMB.out.lt hb6)
  have HOR6 := hide hob6
  clear hw6 hb6 hob6 HB5 HR5 HMB
  go_wp2_with fail
  refine (servers a1 m c1 C w6 (H1.out.below HB6.out) (by omega)).mono ?_
  rintro e w7 ⟨gc, rfl, hgc, hoc, hb7⟩
  have HB7 := hide (HB6.out.trans (hb7.mono HB6.out.size))
  have HR7 := hide (HR6.out.below hb7)
  have HMB7 := hide (HMB6.out.below HMB6.out.lt hb7)
  have HOR7 := hide (HOR6.out.below HOR6.out.lt hb7)
  have HOC := hide hoc
  clear HB6 HR6 HMB6 HOR6 hoc hb7 hgc
  go_wp2_with fail
  refine (zzSeats (seats_any a3 n c3 w5.heap.size gc bm m m (roster L) N C w7 HR7.out HA4.out hn hm HCl.out HOC.out HOR7.out HMB7.out) (fun e w' ⟨gs, v, S, h, _⟩ => ⟨_, _, h⟩)).mono ?_
  rintro e w8 ⟨gs, v, S, rfl, hS, hoS, hseats, hown, hb8⟩
  obtain ⟨av, cv, rfl, hrv, _⟩ := own_shape9 hown
  have HB8 := hide (HB7.out.trans (hb8.mono HB7.out.size))
  have HR8 := hide (HR7.out.below hb8)
  have HSl := hide hS
  have HoS := hide hoS
  have HSS := hide hseats
  have HRV := hide hrv
  clear HB7 HR7 HMB7 HOR7 HOC hb8 hown hrv hoS hseats hS
  go_wp2_with (at_make; refine wpList_make_ob _ rfl _ _ 47 rfl 9 i9 (.string ⟨#[]⟩) 1 Trym.underlying47 hi9 hz90 hz91 .i64 .i64 _ _ n (n + m) rfl rfl rfl (by omega) (by omega) (by rw [hz92]; omega) (by omega) ?_; intro w9 o9 b9)
  rw [show (Value.string ⟨#[]⟩).cells = #[Value.string ⟨#[]⟩] from rfl, Nat.mul_one, made_strs] at o9
  clear hi9 hz90 hz91 hz92
  obtain ⟨i9, hi9, hz90, hz91, hz92⟩ := info_parts info9
  go_loopw [11] (fun i wr => ∃ (k : Nat) (M : List ByteArray), k ≤ n ∧ i = .int .i64 k ∧ M.length = n + m ∧ (∀ j, j < k → M[j]? = N[j]?) ∧ OB wr w8.heap.size 9 (M.flatMap strF) ∧ Below w8.heap.size w8 wr) (fun i _ => n - (intOf i).toNat)
  case atStart => exact ⟨0, _, Nat.zero_le _, rfl, by simp, fun j hj => by omega, o9, b9⟩
  case round =>
  obtain ⟨k, M, hk, rfl, hM, hj, hob, hbel⟩ := hrel
  clear o9 b9
  by_cases hlt : k < n
  · obtain ⟨b, off, x, rfl, hlb, hxp, c1⟩ := (HR8.out.below hbel).str hlt
    obtain ⟨u, c2⟩ := hob.some (j := k) (by rw [str_len]; omega)
    have f2 := hob.frozen k
    have b1 : (k : Int) < (n : Int) := by omega
    have S' := hide (get_step (by omega) hxp hj)
    have HO := hide hob
    have HB := hide hbel
    have HM := hide hM
    clear hob hbel hM hj hxp
    go_wp2
    go_roundw
    case rel => exact ⟨k + 1, M.set k x, by omega, by go_num, by rw [List.length_set]; exact HM.out, S'.out, by rw [str_set]; exact HO.out.set k _, HB.out.setCell (Nat.le_refl _) _⟩
    case measure => simp [intOf]; omega
  have ek : k = n := by omega
  subst ek
  have eM : M.take k = N := get_ext (n := k) (by rw [List.length_take]; omega) HNl.out (fun j hjn => by rw [List.getElem?_take, if_pos hjn]; exact hj j hjn)
  have hown : wr.ownsRow w8.heap.size 9 1 (.slice (some ⟨w8.heap.size, 0, none⟩) k (k + m)) k (N.flatMap strF) := by
    have h := hob.owns (n := k) (sz := 1) (c := k + m) (Nat.le_refl _) (by omega) (by unfold maxLen; omega) (by rw [str_len]; omega)
    rw [Nat.mul_one, str_flat, ← List.map_take, eM, ← str_flat] at h
    exact h
  have HW := hide hown
  have HB := hide hbel
  clear hob hbel hown hj hM eM
  go_wp2
  go_loopw [10, 12] (fun v i wr => ∃ (t : Nat), t ≤ m ∧ i = .int .i64 t ∧ v = .slice (some ⟨w8.heap.size, 0, none⟩) (namesAfter (roster L) N (C.take t)).length (k + m) ∧ wr.ownsRow w8.heap.size 9 1 (.slice (some ⟨w8.heap.size, 0, none⟩) (namesAfter (roster L) N (C.take t)).length (k + m)) (namesAfter (roster L) N (C.take t)).length ((namesAfter (roster L) N (C.take t)).flatMap strF) ∧ Below w8.heap.size w8 wr) (fun _ i _ => m - (intOf i).toNat)
  case atStart => exact ⟨0, Nat.zero_le _, rfl, by simp [namesAfter, HNl.out], by simp only [namesAfter, List.take_zero, List.foldl_nil, HNl.out]; exact HW.out, HB.out⟩
  case round =>
  clear HW HB
  obtain ⟨t, htm, rfl, rfl, hown, hbel⟩ := hrel
  by_cases hlt2 : t < m
  · obtain ⟨b, off, s, wt, rfl, hlb, hps, c1, _⟩ := (H1.out.below (HB8.out.trans (hbel.mono HB8.out.size))).srv hlt2
    have b1 : (t : Int) < (m : Int) := by omega
    have hb3 : b < w8.heap.size := by
      obtain ⟨b', off', e, hb', _⟩ := H1.out.2 (by omega)
      cases e
      exact Nat.lt_of_lt_of_le hb' HB8.out.size
    have nb : b ≠ w8.heap.size := by omega
    have ngs : gs ≠ w8.heap.size := by have := HoS.out.lt; omega
    have hrow := H0.out.below (HB8.out.trans (hbel.mono HB8.out.size))
    have hlk := lookup_any a0 p c0 L s wr hrow (by omega)
    have HLK := hide hlk
    have hoS1 := HoS.out.below HoS.out.lt hbel
    have hst := HSS.out t _ hps
    have hna := after_snoc (E := roster L) (N := N) hps
    have hnl := (after_len (roster L) N (C.take t)).2
    rw [List.length_take, HNl.out] at hnl
    simp only at hst hna
    generalize hNk : namesAfter (roster L) N (C.take t) = Nk at hown hst hna hnl
    have hgl : w8.heap.size < wr.heap.size := (hown.lt w8.heap.size rfl).2
    have hgs : gs < w8.heap.size := HoS.out.lt
    have HNK := hide hNk
    have HST := hide hst
    have HNA := hide hna
    have HOW := hide hown
    have HOS1 := hide hoS1
    have HB := hide hbel
    have hnk8 : Nk.length ≤ k + t := by omega
    clear hrow hlk hoS1 hst hna hNk hown hbel hps hnl
    go_wp2_with fail
    refine HLK.out.mono ?_
    rintro e w10 ⟨rfl, hb10⟩
    have hn10 := hb10.size
    have c1' : w10.cell? ⟨b, off + t * 2, none⟩ = some (.string s) := (hb10.cell (p := ⟨b, off + t * 2, none⟩) hlb).trans c1
    have hlb' : b < w10.heap.size := by omega
    have HO10 := hide (own_kept HOW.out hb10)
    have hoS10 := HOS1.out.below HOS1.out.lt hb10
    have HB10 := hide (HB.out.trans (hb10.mono HB.out.size))
    clear c1 hlb HLK HOW HB hb10
    cases hla : last L s with
    | some v =>
      have hse : seatStep (roster L) Nk s = (Nk, v) := by unfold seatStep; rw [look_roster, hla]
      rw [hse] at HST HNA
      obtain ⟨gb, go, x, y, e, hgl', hxy, d1, d2⟩ := (hoS10.row' (n := m) (sz := 2) (by rw [seat_len, HSl.out])).seat hlt2
      cases e
      rw [Nat.zero_add] at d1 d2
      rw [HST.out] at hxy
      cases hxy
      clear hoS10 HOS1 hla hse
      simp only [lookVal]
      go_wp2
      refine ⟨⟨t + 1, by omega, by go_num, by rw [HNA.out], ?_⟩, by simp [intOf]; omega⟩
      rw [HNA.out]
      exact of_below HO10.out HB10.out (by go_grown)
    | none =>
      obtain ⟨gb, go, x, y, e, hgl', hxy, d1, d2⟩ := (hoS10.row' (n := m) (sz := 2) (by rw [seat_len, HSl.out])).seat hlt2
      cases e
      rw [Nat.zero_add] at d1 d2
      have HXY := hide hxy
      have HLA := hide hla
      clear hoS10 HOS1 hla hxy
      simp only [lookVal]
      go_wp2
      go_loop [17] (fun i17 => ∃ f : Nat, f ≤ Nk.length ∧ i17 = .int .i64 f ∧ ∀ (j : Nat) (x : ByteArray), j < f → Nk[j]? = some x → x ≠ noName) (fun i17 => Nk.length - (intOf i17).toNat)
      case atStart => exact ⟨0, Nat.zero_le _, rfl, fun j x hj => absurd hj (by omega)⟩
      case round =>
      obtain ⟨f, hfn, rfl, hful⟩ := hrel
      have HFU := hide hful
      clear hful
      by_cases hfl : f < Nk.length
      · obtain ⟨gb, go, nm, e, hgl3, hnm, d3⟩ := (own_shape9 HO10.out).elim fun a h => h.elim fun c h => (by
          have h2 := h.2.1
          have h3 : (Value.slice (some ⟨w8.heap.size, 0, none⟩) Nk.length (k + m)) = Value.slice a Nk.length c := h.1
          cases h3
          exact h2.str hfl)
        cases e
        rw [Nat.zero_add] at d3
        have d4 := HO10.out.frozenAt f
        have b3 : (f : Int) < (Nk.length : Int) := by omega
        have b4 : ((f : Int) == (Nk.length : Int)) = false := by simp; omega
        by_cases hem : nm = noName
        · have hem' : nm.toList.isEmpty = true := by rw [hem, ByteArray.toList_eq]; rfl
          have hff := firstFree_eq hfn HFU.out (fun x hx => by rw [hnm] at hx; cases hx; exact hem)
          have hse := step_off (E := roster L) (by rw [look_roster]; exact HLA.out) hff
          rw [hse] at HST HNA
          have hpl : place Nk f s = Nk.set f s := by unfold place; rw [if_pos hfl]
          rw [hpl] at HNA
          have hxy := HXY.out
          rw [HST.out] at hxy
          cases hxy
          have HCI := hide (fun (s : ByteArray) => cur_in (f := f) (s := s) HO10.out HB10.out (Nat.le_refl _))
          clear hem hnm hff hse hpl HXY
          go_wp2
          refine ⟨⟨t + 1, by omega, by go_num, by rw [HNA.out, List.length_set], ?_⟩, by simp [intOf]; omega⟩
          rw [HNA.out, List.length_set]
          exact of_below (HCI.out s).1 (HCI.out s).2 (by go_grown)
        · have hem' : nm.toList.isEmpty = false := by
            rw [ByteArray.toList_eq]
            refine Bool.eq_false_iff.2 fun h => hem ?_
            have : nm.data.toList = [] := by simpa using h
            cases nm; simp only [Array.toList_eq_nil_iff] at this; subst this; rfl
          have HNM := hide hnm
          have HEM := hide hem
          clear hnm hem
          go_wp2
          refine ⟨⟨f + 1, by omega, by go_num, fun j x hj hx => ?_⟩, by simp [intOf]; omega⟩
          by_cases e : j = f
          · subst e
            rw [HNM.out] at hx
            cases hx
            exact HEM.out
          · exact HFU.out j x (by omega) hx
      · have ef : f = Nk.length := by omega
        subst ef
        have b4 : ((Nk.length : Int) == (Nk.length : Int)) = true := by simp
        have hff := firstFree_eq (Nat.le_refl _) HFU.out (fun x hx => by rw [List.getElem?_eq_none (Nat.le_refl _)] at hx; cases hx)
        have hse := step_off (E := roster L) (by rw [look_roster]; exact HLA.out) hff
        rw [hse] at HST HNA
        have hpl : place Nk Nk.length s = Nk ++ [s] := by unfold place; rw [if_neg (by omega)]
        rw [hpl] at HNA
        have hxy := HXY.out
        rw [HST.out] at hxy
        cases hxy
        clear hff hse hpl HXY
        go_wp2_with (at_builtin; refine wpList_append_fits _ rfl _ _ 47 rfl w8.heap.size 9 i9 1 Trym.underlying47 hi9 hz91 w8.heap.size Nk.length (k + m) (Nk.flatMap strF) rfl ((HO10.out.alloc _).alloc _) ⟨w10.heap.size + 1, 0, none⟩ 1 1 [.string ⟨#[]⟩] rfl rfl (cells_newb w10 _ 9 _) (one_str _) (by omega) ?_)
        intro w11 o11 g11
        have e9 : Nk.flatMap strF ++ [Value.string ⟨#[]⟩] = (Nk ++ [noName]).flatMap strF := by rw [List.flatMap_append]; rfl
        rw [e9] at o11
        have hl9 : (Nk ++ [noName]).length = Nk.length + 1 := by simp
        have g11' : w10.grownBy w11 (some w8.heap.size) := ⟨g11.os, g11.tape, g11.output, by have := g11.size; simp at this; omega, fun q hq hr => (g11.block q (by simp; omega) hr).trans ((Below.heap_alloc _ _ q (by simp; omega)).trans (Below.heap_alloc _ _ q hq))⟩
        have hb11 : Below w8.heap.size w8 w11 := HB10.out.grown g11' HB10.out.size (fun q hq => by cases hq; exact Nat.le_refl _)
        have q1 := g11'.cell c1' (by simp; omega)
        have q2 := g11'.cell d1 (by simp; omega)
        have q3 := g11'.cell d2 (by simp; omega)
        have q4 : w11.cell? ⟨w8.heap.size, Nk.length, none⟩ = some (.string ⟨#[]⟩) := by
          rw [o11.cellAt Nk.length (by omega), str_flat]; simp [noName]
        have q5 := o11.frozenAt Nk.length
        have b5 : (Nk.length : Int) < (Nk.length : Int) + 1 := by omega
        have hn11 : w8.heap.size < w11.heap.size := (o11.lt w8.heap.size rfl).2
        have hnb : b < w11.heap.size := by have := g11'.size; omega
        have hng : gs < w11.heap.size := by omega
        have hle : (Nk ++ [noName]).set Nk.length s = Nk ++ [s] := by rw [List.set_append_right _ _ (Nat.le_refl _)]; simp
        have HCI := hide (by
          have h := cur_in (f := Nk.length) (s := s) (Nk := Nk ++ [noName]) (by rw [hl9]; exact o11) hb11 (Nat.le_refl _)
          rw [hle, hl9] at h
          exact h)
        clear o11 g11 g11' hb11 e9 hl9 hle c1' d1 d2
        go_wp2
        refine ⟨⟨t + 1, by omega, by go_num, by rw [HNA.out, List.length_append]; rfl, ?_⟩, by simp [intOf]; omega⟩
        rw [HNA.out, List.length_append]
        exact of_below HCI.out.1 HCI.out.2 (by go_grown)
  have et : t = m := by omega
  subst et
  have htk : C.take t = C := List.take_of_length_le (by rw [HCl.out]; exact Nat.le_refl _)
  rw [htk] at hown ⊢
  have hnl := (after_len (roster L) N C).2
  rw [HNl.out, HCl.out] at hnl
  generalize namesAfter (roster L) N C = NF at *
  have hrc : Row wr (some ⟨w8.heap.size, 0, none⟩) NF.length 1 (NF.flatMap strF) := ⟨hown.1, fun _ => ⟨w8.heap.size, 0, rfl, (hown.lt _ rfl).2, fun j hj => by rw [Nat.zero_add]; exact hown.cellAt j hj⟩⟩
  have HRC := hide hrc
  have HRN := hide (HRV.out.below hbel)
  have HB := hide hbel
  clear hown hrc hbel htk
  have b0 : ((NF.length : Int) != (NF.length : Int)) = false := by simp
  go_wp2
  go_loopw [18] (fun i wr' => ∃ f : Nat, f ≤ NF.length ∧ i = .int .i64 f ∧ ∃ q, wr' = wr.drewN q) (fun i _ => NF.length - (intOf i).toNat)
  case atStart => exact ⟨0, Nat.zero_le _, rfl, 0, rfl⟩
  case round =>
  obtain ⟨f, hfn, rfl, q, rfl⟩ := hrel
  by_cases hfl : f < NF.length
  · obtain ⟨gb, go, x, e, _, hx1, d1⟩ := HRC.out.str hfl
    cases e
    obtain ⟨gb, go, x', rfl, _, hx2, d2⟩ := HRN.out.str hfl
    rw [hx1] at hx2
    cases hx2
    rw [Nat.zero_add] at d1
    have b3 : (f : Int) < (NF.length : Int) := by omega
    have hxx : (x.toList == x.toList) = true := by simp
    clear hx1
    go_wp2
    go_quiet (fail)
    go_wp2
    exact ⟨⟨f + 1, by omega, by go_num, _, rfl⟩, by simp [intOf]; omega⟩
  · go_wp2
    go_ret
    exact ⟨rfl, below_draws (HB8.out.trans (HB.out.mono HB8.out.size)) _⟩
end Go.Proofs.Qxb6601991aMods
