/-
  appendStaying (49), ZZAppendStaying (16).
-/
import Derived.Test.Qxb6601991aModsStay3
import Derived.Deep.Upon
namespace Go.Proofs.Qxb6601991aMods
open Go.ChangeShapes Go.WideShapes Go.ChangeAt Go.RowKit
set_option linter.unusedVariables false

theorem OB.setCells {g t : Nat} : ∀ (vs : List Value) (o : Nat) {w : World} {cs : List Value}, OB w g t cs → o + vs.length ≤ cs.length → OB (w.setCells g o vs) g t (cs.take o ++ vs ++ cs.drop (o + vs.length))
  | [], o, w, cs, h, _ => by simpa [World.setCells] using h
  | v :: r, o, w, cs, h, hl => by
    have ih := OB.setCells r (o + 1) (h.set o v) (by simp at hl ⊢; omega)
    have e : (cs.set o v).take (o + 1) ++ r ++ (cs.set o v).drop (o + 1 + r.length) = cs.take o ++ (v :: r) ++ cs.drop (o + (v :: r).length) := by
      rw [List.drop_set_of_lt (by omega), List.take_succ_eq_append_getElem (by simp at hl ⊢; omega), List.take_set, List.set_eq_of_length_le (by simp; omega)]
      simp
      omega
    rw [e] at ih
    exact ih
theorem grown_setCells {g : Nat} (w : World) (o : Nat) (vs : List Value) : w.grownBy (w.setCells g o vs) (some g) :=
  ⟨World.os_setCells w g o vs, by
    revert o w
    induction vs with
    | nil => intro w o; rfl
    | cons v r ih => intro w o; exact ih (w.setCell ⟨g, o, none⟩ v) (o + 1), World.output_setCells w g o vs, by
    revert o w
    induction vs with
    | nil => intro w o; exact Nat.le_refl _
    | cons v r ih => intro w o; have := ih (w.setCell ⟨g, o, none⟩ v) (o + 1); simpa [World.setCells] using this,
   fun k hk hne => World.heap_setCells_other w g o vs hk (fun e => hne (by rw [e]))⟩

theorem stays_nil_all (w : World) (L : List (Int × Int)) : Stays w L (.slice none 0 0) (fun _ => true) := fun wx _ k _ => stays_nil _ _ wx
theorem stays_some_all (w : World) (L : List (Int × Int)) (g n c : Nat) (lv : List Bool) (hr : Row w (some ⟨g, 0, none⟩) n 1 (lv.map Value.bool)) (hs : srvIn L n) (hw : WfPts L) : Stays w L (.slice (some ⟨g, 0, none⟩) n c) (keepB lv) := by
  intro wx hb k hk
  have h1 := hs k hk
  have h2 := (hw k hk).2.2.1
  obtain ⟨b, off, e, hlt, hc⟩ := (hr.below hb).bool (k := (L.getD k (0, 0)).2.toNat) (by omega)
  cases e
  exact stays_some _ _ g 0 n c _ wx hlt h2 h1 hc

theorem ptCells_one : ∀ (l : List (Int × Int)), ∀ u ∈ ptCells l, u.oneCell' = true
  | [], u, h => by simp [ptCells] at h
  | p :: r, u, h => by
    simp only [ptCells, List.mem_cons] at h
    rcases h with rfl | rfl | h
    · rfl
    · rfl
    · exact ptCells_one r u h
theorem ob_cells {w : World} {g t : Nat} {cs : List Value} (h : OB w g t cs) : ∀ (j : Nat) (u : Value), cs[j]? = some u → w.cell? ((⟨g, 0, none⟩ : Addr).add j) = some u := by
  intro j u hu
  rw [Addr.add_lit, Nat.zero_add, h.cell, hu]

/-! ### leaving is nil -/
set_option maxHeartbeats 1000000 in
theorem nil_room (g g2 n c m c2 : Nat) (M L2 : List (Int × Int)) (w : World) (ho : OB w g 37 (ptCells M)) (ho2 : OB w g2 37 (ptCells L2)) (hM : M.length = c) (hL : L2.length = m) (hr : n + m ≤ c) (hc : c ≤ 1048576) :
    Calls Trym.prog 49 #[.slice (some ⟨g, 0, none⟩) n c, .slice (some ⟨g2, 0, none⟩) m c2, .slice none 0 0] w fun e w' => e = .returned (.slice (some ⟨g, 0, none⟩) (n + m) c) ∧ OB w' g 37 (ptCells (M.take n ++ L2 ++ M.drop (n + m))) ∧ w.grownBy w' (some g) := by
  obtain ⟨i0, hi, hz0, hz1, hz2⟩ := info_parts info37
  have hq := eql_nil none 0 0
  have HO := hide ho
  have HO2 := hide ho2
  have HM := hide hM
  have HL := hide hL
  clear ho ho2 hM hL
  go_enter Trym.func49, Trym.ntmps49
  go_wp2_with (at_builtin; refine wpList_append_arg _ rfl _ _ 30 rfl 37 i0 (.agg #[.int .u64 0, .int .u32 0]) 2 16 Trym.underlying30 hi hz0 hz1 hz2 rfl (by decide) g 0 n c (ptCells (M.take n)) rfl ?c1 ?c2 ⟨g2, 0, none⟩ m c2 (ptCells L2) rfl ?c3 (ob_cells HO2.out) (ptCells_one L2) ?c4 (by unfold maxLen; omega) (by omega) ?_ (fun h => absurd h (by omega)))
  case c1 => have := HM.out; rw [ptCells_length, List.length_take]; omega
  case c2 =>
    intro j u hj
    rw [Nat.zero_add, HO.out.cell]
    rw [← ptCells_take] at hj
    rw [List.getElem?_take] at hj
    split at hj
    · exact hj
    · cases hj
  case c3 => rw [ptCells_length, HL.out]
  case c4 =>
    intro _ j hj
    rw [ptCells_length, HL.out] at hj
    refine ⟨?_, HO.out.frozen _⟩
    obtain ⟨u, hu⟩ := HO.out.some (j := 0 + n * 2 + j) (by rw [ptCells_length, HM.out]; omega)
    rw [hu]; rfl
  · go_ret
    refine ⟨rfl, ?_, ?_⟩
    · have h1 := HO.out.setCells (ptCells L2) (n * 2) (by rw [ptCells_length, ptCells_length, HM.out, HL.out]; omega)
      have h2 := HL.out
      rw [ptCells_length, ← Nat.add_mul, HL.out, ptCells_take, ptCells_drop, ← ptCells_append, ← ptCells_append] at h1
      exact h1
    · exact grown_setCells w _ _

theorem own_shape {w : World} {base n : Nat} {v : Value} {L : List (Int × Int)} (h : w.ownsRow base 37 2 v n (ptCells L)) : ∃ a c, v = .slice a n c ∧ Row w a n 2 (ptCells L) := by
  have hl := h.1
  rcases h.2 with ⟨rfl, rfl⟩ | ⟨g, cap, cur, rfl, hb, _⟩
  · exact ⟨none, 0, rfl, hl, fun h => absurd h (by omega)⟩
  · exact ⟨_, cap, rfl, own_row h⟩
theorem own_mono {w : World} {base base' e sz n : Nat} {v : Value} {xs : List Value} (h : w.ownsRow base e sz v n xs) (hb : base' ≤ base) : w.ownsRow base' e sz v n xs :=
  ⟨h.1, h.2.imp id fun ⟨g, cap, cur, e, h1, r⟩ => ⟨g, cap, cur, e, Nat.le_trans hb h1, r⟩⟩

set_option maxHeartbeats 1000000 in
theorem nil_grow (g g2 n m c2 : Nat) (L1 L2 : List (Int × Int)) (w : World) (ho : OB w g 37 (ptCells L1)) (ho2 : OB w g2 37 (ptCells L2)) (hM : L1.length = n) (hL : L2.length = m) (hm0 : 0 < m) (hn : n ≤ 65536) (hm : m ≤ 65536) :
    Calls Trym.prog 49 #[.slice (some ⟨g, 0, none⟩) n n, .slice (some ⟨g2, 0, none⟩) m c2, .slice none 0 0] w fun e w' => ∃ a' c', e = .returned (.slice a' (n + m) c') ∧ Row w' a' (n + m) 2 (ptCells (L1 ++ L2)) ∧ Below w.heap.size w w' := by
  obtain ⟨i0, hi, hz0, hz1, hz2⟩ := info_parts info37
  have hq := eql_nil none 0 0
  have HO := hide ho
  have HO2 := hide ho2
  have HM := hide hM
  have HL := hide hL
  clear ho ho2 hM hL
  go_enter Trym.func49, Trym.ntmps49
  go_wp2_with (at_builtin; refine wpList_append_grows _ rfl _ _ 30 rfl 37 i0 (.agg #[.int .u64 0, .int .u32 0]) 2 16 Trym.underlying30 hi hz0 hz1 hz2 rfl (by decide) (some ⟨g, 0, none⟩) n n (ptCells L1) rfl (fun h => by cases h) ?c1 ?c2 ⟨g2, 0, none⟩ m c2 (ptCells L2) rfl ?c3 (ob_cells HO2.out) (ptCells_one L2) (by omega) (by unfold maxLen; omega) (by omega) ?_)
  case c1 => rw [ptCells_length, HM.out]
  case c2 => intro b hb; cases hb; exact ob_cells HO.out
  case c3 => rw [ptCells_length, HL.out]
  intro v' w' h1 h2
  rw [← ptCells_append] at h1
  obtain ⟨a', c', rfl, hrow⟩ := own_shape h1
  have hb := grown_below h2 (Nat.le_refl _) (fun _ h => by cases h)
  clear h1 h2
  go_wp2
  go_ret
  exact ⟨_, _, rfl, hrow, hb⟩

/-! ### leaving is not nil: room for all of old -/
theorem set_take {M : List (Int × Int)} {q : Nat} {pt : Int × Int} : (M.set q pt).take q = M.take q := by
  rw [List.take_set, List.set_eq_of_length_le (by simp; omega)]
theorem set_take1 {M : List (Int × Int)} {q : Nat} {pt : Int × Int} (hq : q < M.length) : (M.set q pt).take (q + 1) = M.take q ++ [pt] := by
  rw [List.take_succ_eq_append_getElem (by simpa using hq), set_take]; simp
theorem set_drop {M : List (Int × Int)} {q k : Nat} {pt : Int × Int} (hq : q < k) : (M.set q pt).drop k = M.drop k := List.drop_set_of_lt hq
theorem room_world {w wr : World} {g q : Nat} {M : List (Int × Int)} {p s : Int} {o : Obj} (h : OB wr g 37 (ptCells M)) (hq : q < M.length) (hg : w.grownBy wr (some g)) :
    OB (((wr.setCell ⟨g, q * 2, none⟩ (.int .u64 p)).setCell ⟨g, q * 2 + 1, none⟩ (.int .u32 s)).alloc o) g 37 (ptCells (M.set q (p, s))) ∧
    w.grownBy (((wr.setCell ⟨g, q * 2, none⟩ (.int .u64 p)).setCell ⟨g, q * 2 + 1, none⟩ (.int .u32 s)).alloc o) (some g) := by
  refine ⟨(h.setPt hq p s).alloc o, hg.os, hg.tape, hg.output, by have := hg.size; simp; omega, fun k hk hne => ?_⟩
  have h1 := hg.block k hk hne
  have hkg : k ≠ g := fun e => hne (by rw [e])
  have hs := hg.size
  rw [Below.heap_alloc _ _ _ (by simp; omega), Below.heap_setCell _ _ _ _ hkg, Below.heap_setCell _ _ _ _ hkg, h1]

set_option maxRecDepth 100000 in
set_option maxHeartbeats 2000000 in
theorem some_room (g g2 n c m c2 gl nl cl : Nat) (M L2 : List (Int × Int)) (lv : List Bool) (w : World) (ho : OB w g 37 (ptCells M)) (ho2 : OB w g2 37 (ptCells L2)) (hl : OB w gl 4 (lv.map Value.bool)) (hlv : lv.length = nl) (hM : M.length = c) (hL : L2.length = m) (hr : n + m ≤ c) (hc : c ≤ 1048576) (hn : n ≤ 65536) (hs : srvIn L2 nl) (hw : WfPts L2) (hg2 : g2 ≠ g) (hgl : gl ≠ g) :
    Calls Trym.prog 49 #[.slice (some ⟨g, 0, none⟩) n c, .slice (some ⟨g2, 0, none⟩) m c2, .slice (some ⟨gl, 0, none⟩) nl cl] w fun e w' => e = .returned (.slice (some ⟨g, 0, none⟩) (n + (L2.filter (keepB lv)).length) c) ∧
      (∃ M', M'.length = c ∧ M'.take (n + (L2.filter (keepB lv)).length) = M.take n ++ L2.filter (keepB lv) ∧ M'.drop (n + m) = M.drop (n + m) ∧ OB w' g 37 (ptCells M')) ∧ w.grownBy w' (some g) := by
  have hq := eql_nil (some ⟨gl, 0, none⟩) nl cl
  have HO := hide ho
  have HO2 := hide ho2
  have HOl := hide hl
  have HM := hide hM
  have HL := hide hL
  have Hlv := hide hlv
  have HS := hide hs
  have HW := hide hw
  clear ho ho2 hl hM hL hs hw hlv
  go_enter Trym.func49, Trym.ntmps49
  go_wp2
  go_loopw [9, 53] (fun v i wr => ∃ (t q : Nat) (M' : List (Int × Int)), t ≤ m ∧ i = .int .i64 t ∧ v = .int .i64 q ∧ q = n + ((L2.take t).filter (keepB lv)).length ∧ M'.length = c ∧ M'.take q = M.take n ++ (L2.take t).filter (keepB lv) ∧ M'.drop (n + m) = M.drop (n + m) ∧ OB wr g 37 (ptCells M') ∧ w.grownBy wr (some g)) (fun _ i _ => m - (intOf i).toNat)
  case atStart => exact ⟨0, n, M, Nat.zero_le _, rfl, rfl, by simp, HM.out, by simp, rfl, HO.out, World.grownBy.refl _ _⟩
  case round =>
    obtain ⟨t, q, M', ht, rfl, rfl, hq, hM', htk, hdr, hob, hgr⟩ := hrel
    have hfl := filter_le L2 t (keepB lv)
    have hqt : q ≤ n + t := by omega
    have hqn : n ≤ q := by omega
    have HQ := hide hq
    have HTK := hide htk
    have HDR := hide hdr
    clear hq htk hdr hfl
    by_cases hlt : t < m
    · have ho2 : OB wr g2 37 (ptCells L2) := HO2.out.grown (by simpa using hg2) hgr
      have hol : OB wr gl 4 (lv.map Value.bool) := HOl.out.grown (by simpa using hgl) hgr
      obtain ⟨b, off, p, s, e, hlt', hp, c1, c2⟩ := (ho2.row' (n := m) (sz := 2) (by rw [ptCells_length, HL.out])).pt hlt
      cases e
      have hsv := HS.out t (by rw [HL.out]; exact hlt)
      have hwp := HW.out t (by rw [HL.out]; exact hlt)
      rw [hp] at hsv hwp
      simp only at hsv hwp
      obtain ⟨_, _, s0, s1⟩ := hwp
      obtain ⟨b', off', e, hltl, c3⟩ := (hol.row' (n := nl) (sz := 1) (by rw [List.length_map, Hlv.out]; omega)).bool (k := s.toNat) (by omega)
      cases e
      rw [Nat.zero_add] at c1 c2 c3
      obtain ⟨u1, e1⟩ := hob.some (j := q * 2) (by rw [ptCells_length]; omega)
      obtain ⟨u2, e2⟩ := hob.some (j := q * 2 + 1) (by rw [ptCells_length]; omega)
      have f1 := hob.frozen (q * 2)
      have f2 := hob.frozen (q * 2 + 1)
      have z1 : g < wr.heap.size := hob.lt
      have R := hide (room_world (q := q) (p := p) (s := s) (o := Obj.cells #[Value.int IntKind.u64 p, Value.int IntKind.u32 s] 37) hob (by omega) hgr)
      have b1 : (t : Int) < (m : Int) := by omega
      have b2 : (q : Int) < ((n + m : Nat) : Int) := by omega
      have hl2 := HL.out
      have hM1 := hide hM'
      generalize hz : lv.getD s.toNat false = z at c3
      have hkp : keepB lv (p, s) = !z := by simp only [keepB]; rw [hz]
      clear ho2 hol hob hgr hM' hz
      cases z
      · have HT := hide (filter_yes (L := L2) (k := t) (kp := keepB lv) (by omega) hp (by rw [hkp]; rfl))
        clear hp hkp hl2
        go_wp2
        refine ⟨⟨t + 1, q + 1, M'.set q (p, s), by omega, by go_num, by go_num, ?_, by rw [List.length_set]; exact hM1.out, ?_, ?_, R.out.1, R.out.2⟩, by simp [intOf]; omega⟩
        · rw [HT.out, List.length_append, HQ.out]; rfl
        · rw [set_take1 (by rw [hM1.out]; omega), HTK.out, HT.out, List.append_assoc]
        · rw [set_drop (by omega), HDR.out]
      · have HT := hide (filter_no (L := L2) (k := t) (kp := keepB lv) (by omega) hp (by rw [hkp]; rfl))
        clear hp hkp hl2
        go_wp2
        refine ⟨⟨t + 1, q, M'.set q (p, s), by omega, by go_num, by go_num, ?_, by rw [List.length_set]; exact hM1.out, ?_, ?_, R.out.1, R.out.2⟩, by simp [intOf]; omega⟩
        · rw [HT.out, HQ.out]
        · rw [set_take, HTK.out, HT.out]
        · rw [set_drop (by omega), HDR.out]
    · have e : t = m := by omega
      subst e
      have hl2 := HL.out
      have htk : L2.take t = L2 := List.take_of_length_le (by omega)
      rw [htk] at HQ HTK
      clear htk
      go_wp2
      go_ret
      have hq' := HQ.out
      subst hq'
      exact ⟨rfl, ⟨M', hM', HTK.out, HDR.out, hob⟩, hgr⟩

/-! ### leaving is not nil: no room -/
theorem cell_of_row' {w : World} {g t : Nat} {cs : List Value} (h : OB w g t cs) : ∀ b, some (⟨g, 0, none⟩ : Addr) = some b → ∀ (j : Nat) (u : Value), cs[j]? = some u → w.cell? (b.add j) = some u := by
  intro b hb; cases hb; exact ob_cells h

theorem cells_new2 (w : World) (o : Obj) (t : TypeId) (l : List Value) : ∀ (j : Nat) (u : Value), l[j]? = some u → ((w.alloc o).alloc (.cells l.toArray t)).cell? ((⟨w.heap.size + 1, 0, none⟩ : Addr).add j) = some u := by
  have := cells_new (w.alloc o) t l
  rwa [World.size_alloc] at this
theorem grow_step {w wr w' : World} {base k : Nat} {o o' : Obj} {v' : Value} {M : List (Int × Int)} {p s : Int} {r : Option Nat} (h1 : w'.ownsRow base 37 2 v' k (ptCells M ++ [.int .u64 p, .int .u32 s])) (h2 : ((wr.alloc o).alloc o').grownBy w' r) (hb : Below w.heap.size w wr) (hbase : w.heap.size ≤ base) (hr : ∀ k, r = some k → w.heap.size ≤ k) :
    w'.ownsRow w.heap.size 37 2 v' k (ptCells (M ++ [(p, s)])) ∧ Below w.heap.size w w' :=
  ⟨by rw [ptCells_append]; exact own_mono h1 hbase, ((hb.alloc hb.size o).alloc (by have := hb.size; simp; omega) o').grown h2 (by have := hb.size; simp; omega) hr⟩

set_option maxRecDepth 100000 in
set_option maxHeartbeats 2000000 in
theorem some_grow (g g2 n m c2 gl nl cl : Nat) (L1 L2 : List (Int × Int)) (lv : List Bool) (w : World) (ho : OB w g 37 (ptCells L1)) (ho2 : OB w g2 37 (ptCells L2)) (hl : OB w gl 4 (lv.map Value.bool)) (hlv : lv.length = nl) (hM : L1.length = n) (hL : L2.length = m) (hm0 : 0 < m) (hn : n ≤ 65536) (hm : m ≤ 65536) (hs : srvIn L2 nl) (hw : WfPts L2) :
    Calls Trym.prog 49 #[.slice (some ⟨g, 0, none⟩) n n, .slice (some ⟨g2, 0, none⟩) m c2, .slice (some ⟨gl, 0, none⟩) nl cl] w fun e w' => ∃ a' c', e = .returned (.slice a' (n + (L2.filter (keepB lv)).length) c') ∧ Row w' a' (n + (L2.filter (keepB lv)).length) 2 (ptCells (L1 ++ L2.filter (keepB lv))) ∧ Below w.heap.size w w' := by
  obtain ⟨i0, hi, hz0, hz1, hz2⟩ := info_parts info37
  have hq := eql_nil (some ⟨gl, 0, none⟩) nl cl
  have HO := hide ho
  have HO2 := hide ho2
  have HOl := hide hl
  have HM := hide hM
  have HL := hide hL
  have Hlv := hide hlv
  have HS := hide hs
  have HW := hide hw
  clear ho ho2 hl hM hL hs hw hlv
  go_enter Trym.func49, Trym.ntmps49
  go_wp2
  go_loopw [0, 27] (fun v i wr => ∃ (t r : Nat), t ≤ m ∧ i = .int .i64 t ∧ r = ((L2.take t).filter (keepB lv)).length ∧ ((r = 0 ∧ v = .slice (some ⟨g, 0, none⟩) n n) ∨ wr.ownsRow w.heap.size 37 2 v (n + r) (ptCells (L1 ++ (L2.take t).filter (keepB lv)))) ∧ Below w.heap.size w wr) (fun _ i _ => m - (intOf i).toNat)
  case atStart => exact ⟨0, 0, Nat.zero_le _, rfl, by simp, .inl ⟨rfl, rfl⟩, Below.refl _ _⟩
  case round =>
    obtain ⟨t, r, ht, rfl, hr, hv, hbel⟩ := hrel
    have hfl := filter_le L2 t (keepB lv)
    have hrt : r ≤ t := by omega
    have HR := hide hr
    clear hr hfl
    by_cases hlt : t < m
    · have ho2 : OB wr g2 37 (ptCells L2) := HO2.out.below HO2.out.lt hbel
      have hol : OB wr gl 4 (lv.map Value.bool) := HOl.out.below HOl.out.lt hbel
      have ho1 : OB wr g 37 (ptCells L1) := HO.out.below HO.out.lt hbel
      obtain ⟨b, off, p, s, e, hlt', hp, c1, c2⟩ := (ho2.row' (n := m) (sz := 2) (by rw [ptCells_length, HL.out])).pt hlt
      cases e
      have hsv := HS.out t (by rw [HL.out]; exact hlt)
      have hwp := HW.out t (by rw [HL.out]; exact hlt)
      rw [hp] at hsv hwp
      simp only at hsv hwp
      obtain ⟨_, _, s0, s1⟩ := hwp
      obtain ⟨b', off', e, hltl, c3⟩ := (hol.row' (n := nl) (sz := 1) (by rw [List.length_map, Hlv.out]; omega)).bool (k := s.toNat) (by omega)
      cases e
      rw [Nat.zero_add] at c1 c2 c3
      have b1 : (t : Int) < (m : Int) := by omega
      have hl2 := HL.out
      have hzz : w.heap.size ≤ wr.heap.size := hbel.size
      generalize hz : lv.getD s.toNat false = z at c3
      have hkp : keepB lv (p, s) = !z := by simp only [keepB]; rw [hz]
      clear ho2 hol hz
      cases z
      · have HT := hide (filter_yes (L := L2) (k := t) (kp := keepB lv) (by omega) hp (by rw [hkp]; rfl))
        have HB := hide hbel
        clear hp hkp hl2 hbel
        rcases hv with ⟨hr0, rfl⟩ | hown
        · have HOn := hide ((ho1.alloc (Obj.cells #[Value.int IntKind.u64 p, Value.int IntKind.u32 s] 37)).alloc (Obj.cells #[Value.int IntKind.u64 p, Value.int IntKind.u32 s] 37))
          have Hr0 := hide hr0
          clear hr0 ho1
          go_wp2_with (at_builtin; refine wpList_append_grows _ rfl _ _ 30 rfl 37 i0 (.agg #[.int .u64 0, .int .u32 0]) 2 16 Trym.underlying30 hi hz0 hz1 hz2 rfl (by decide) (some ⟨g, 0, none⟩) n n (ptCells L1) rfl (fun h => by cases h) ?c1 (cell_of_row' HOn.out) ⟨wr.heap.size + 1, 0, none⟩ 1 1 [.int .u64 p, .int .u32 s] rfl rfl (cells_new2 wr _ 37 _) (one_pt p s) (by omega) (by unfold maxLen; omega) (by omega) ?_)
          case c1 => rw [ptCells_length, HM.out]
          intro v' w' h1 h2
          obtain ⟨o3, b3⟩ := grow_step h1 h2 HB.out (by omega) (fun k h => by cases h)
          have hnil : (L2.take t).filter (keepB lv) = [] := List.eq_nil_of_length_eq_zero (by rw [← HR.out]; exact Hr0.out)
          rw [hnil, List.nil_append] at HT
          clear h1 h2 HOn c1 c2 c3 hnil
          go_wp2
          refine ⟨⟨t + 1, 1, by omega, by go_num, by rw [HT.out]; rfl, .inr (by rw [HT.out]; exact o3), b3⟩, by simp [intOf]; omega⟩
        · clear ho1
          go_wp2_with (at_builtin; refine wpList_append_own _ rfl _ _ 30 rfl w.heap.size 37 i0 (.agg #[.int .u64 0, .int .u32 0]) 2 16 Trym.underlying30 hi hz0 hz1 hz2 rfl (by decide) _ (n + r) _ rfl ((hown.alloc _).alloc _) ⟨wr.heap.size + 1, 0, none⟩ 1 1 [.int .u64 p, .int .u32 s] rfl rfl (cells_new2 wr _ 37 _) (one_pt p s) (by unfold maxLen; omega) (by omega) (by simp; omega) ?_)
          intro v' w' h1 h2 _
          obtain ⟨o3, b3⟩ := grow_step h1 h2 HB.out (Nat.le_refl _) (fun k h => (hown.lt k h).1)
          clear h1 h2 hown c1 c2 c3
          go_wp2
          refine ⟨⟨t + 1, r + 1, by omega, by go_num, by rw [HT.out, List.length_append, ← HR.out]; rfl, .inr (by rw [HT.out, ← List.append_assoc]; exact o3), b3⟩, by simp [intOf]; omega⟩
      · have HT := hide (filter_no (L := L2) (k := t) (kp := keepB lv) (by omega) hp (by rw [hkp]; rfl))
        have HB := hide hbel
        have HV : Hid ((r = 0 ∧ u0 = .slice (some ⟨g, 0, none⟩) n n) ∨ (wr.alloc (Obj.cells #[Value.int IntKind.u64 p, Value.int IntKind.u32 s] 37)).ownsRow w.heap.size 37 2 u0 (n + r) (ptCells (L1 ++ (L2.take t).filter (keepB lv)))) := hv.imp id (fun h => h.alloc _)
        clear hp hkp hl2 ho1 hv hbel
        go_wp2
        refine ⟨⟨t + 1, r, by omega, by go_num, by rw [HT.out, ← HR.out], by rw [HT.out]; exact HV.out, HB.out.alloc hzz _⟩, by simp [intOf]; omega⟩
    · have e : t = m := by omega
      subst e
      have hl2 := HL.out
      have htk : L2.take t = L2 := List.take_of_length_le (by omega)
      rw [htk] at HR hv
      obtain ⟨a', c', rfl, hrow⟩ : ∃ a' c', u0 = .slice a' (n + r) c' ∧ Row wr a' (n + r) 2 (ptCells (L1 ++ L2.filter (keepB lv))) := by
        rcases hv with ⟨rfl, rfl⟩ | hown
        · have hnil : L2.filter (keepB lv) = [] := List.eq_nil_of_length_eq_zero (by rw [← HR.out])
          rw [hnil, List.append_nil]
          exact ⟨_, _, rfl, (HO.out.below HO.out.lt hbel).row' (by rw [ptCells_length, HM.out]; omega)⟩
        · exact own_shape hown
      clear hv htk hl2
      go_wp2
      go_ret
      have hr' := HR.out
      subst hr'
      exact ⟨_, _, rfl, hrow, hbel⟩

/-! ### The export: it hands on what appendStaying gives -/
theorem zzAppend {v1 v2 v3 : Value} {w : World} {R : Ending → World → Prop} (h : Calls Trym.prog 49 #[v1, v2, v3] w R) (hR : ∀ e w', R e w' → ∃ v, e = .returned v) : Calls Trym.prog 16 #[v1, v2, v3] w R := by
  have H := hide h
  have HR := hide hR
  clear h hR
  go_enter Trym.func16, Trym.ntmps16
  go_wp2_with fail
  refine H.out.mono ?_
  intro e w' hr
  obtain ⟨v, rfl⟩ := HR.out e w' hr
  have HHr := hide hr
  clear hr
  go_wp2
  exact HHr.out
end Go.Proofs.Qxb6601991aMods
