/-
  zzMeetOrder (44): the walk.
-/
import Derived.Test.Qxb6601991aModsWalk4
import Derived.Deep.DeepCutAuto
import Derived.Deep.CutBlock
namespace Go.Proofs.Qxb6601991aMods
open Go.ChangeShapes Go.WideShapes Go.ChangeAt Go.RowKit
set_option linter.unusedVariables false

theorem wpList_make_ob1 {P : Program} (w : World) {ops : Array Oper} {rest : List Oper} {o : Oper} {a : Act} {Q : Exit → Act → World → Prop}
    (hg : o.guard = none) (l c : Operand) (t : TypeId) (hop : o.op = Op.makeSlice t l c)
    (e : TypeId) (i : TypeInfo) (z : Value) (size : Nat) (h1 : P.underlying t = some (.slice e)) (h2 : P.info? e = some i) (h3 : i.zero = some z) (h4 : i.size = size)
    (kl kc : IntKind) (L C : Int) (n m : Nat) (hl : a.eval l = .int kl L) (hc : a.eval c = .int kc C) (hL : L = (n : Int)) (hC : C = (m : Int)) (hnm : n ≤ m) (b2 : i.bytes * m ≤ 281474976710656) (b3 : m ≤ 1048576)
    (hK : ∀ w', OB w' w.heap.size e (madeCells z.cells (m * size)).toList → Below w.heap.size w w' → wpList P ops Q rest (a.put o.dst (.slice (some ⟨w.heap.size, 0, none⟩) n m)) w') :
    wpList P ops Q (o :: rest) a w := by
  refine wpList_plain hg fun K hK' => ?_
  subst hL
  subst hC
  subst h4
  have hb' : (i.bytes : Int) * (m : Int) ≤ 281474976710656 := by
    have h : ((i.bytes * m : Nat) : Int) ≤ 281474976710656 := by omega
    rwa [Int.natCast_mul] at h
  have hr := run_make (P := P) w t e i z h1 h2 h3 kl kc n m (by omega) (by omega) hb' (by omega)
  simp only [Int.toNat_natCast] at hr
  unfold Oper.wp
  simp [execOp, hop, hl, hc, hr, Result.andThen]
  refine hK' _ _ (hK _ ?_ ((Below.refl _ _).alloc (Nat.le_refl _) _))
  have := OB.new w e (madeCells z.cells (m * i.size)).toList
  simpa using this

theorem undrew1 {W w1 : World} (hb : Below W.drew.heap.size W.drew w1) : Below W.heap.size W w1 := ⟨hb.os, hb.tape, hb.output, hb.size, hb.block⟩
theorem get_step1 {α : Type} {M L : List α} {k : Nat} {x : α} (hk : k < M.length) (hp : L[k]? = some x) (h : ∀ j, j < k → M[j]? = L[j]?) : ∀ j, j < k + 1 → (M.set k x)[j]? = L[j]? := by
  intro j hj
  by_cases e : j = k
  · subst e; rw [List.getElem?_set_self hk, hp]
  · rw [List.getElem?_set_ne (by omega)]; exact h j (by omega)
theorem get_ext1 {α : Type} {M L : List α} {n : Nat} (h1 : M.length = n) (h2 : L.length = n) (h : ∀ j, j < n → M[j]? = L[j]?) : M = L := by
  apply List.ext_getElem?
  intro j
  by_cases hj : j < n
  · exact h j hj
  · rw [List.getElem?_eq_none (by omega), List.getElem?_eq_none (by omega)]

theorem MI.to_mid {key : Nat → Int × List UInt8} {w wr : World} {A B0 B : List Nat} {ga gb T lo mid hi i j o : Nat} (h : MI key w wr A B0 ga gb T lo mid hi i j o B) (e : i = mid) : MI key w wr A B0 ga gb T lo mid hi mid j o B := by
  subst e
  exact h
theorem halves_at {key : Nat → Int × List UInt8} {A : List Nat} {wd T c lo : Nat} (hw : 0 < wd) (h : ∀ c, Blks key A wd T c) (e : lo = c * (2 * wd)) (hc : lo < T) : Seg key A lo (min (lo + wd) T) ∧ Seg key A (min (lo + wd) T) (min (lo + 2 * wd) T) := by
  subst e
  exact blks_halves key hw h hc
theorem next_at {key : Nat → Int × List UInt8} {w wr : World} {A B0 B : List Nat} {ga gb T lo mid hi i j o wd c : Nat} (hK : Blks key B0 (2 * wd) T c) (e : lo = c * (2 * wd)) (eh : min (lo + 2 * wd) T = hi) (h : MI key w wr A B0 ga gb T lo mid hi i j o B) (hi' : i = mid) (hj : j = hi) : Blks key B (2 * wd) T (c + 1) := by
  subst e
  refine blks_next key hK h.2.2.2.2.1 ?_
  rw [eh]
  exact MI.done key h hi' hj
theorem ex5 {i j mid hi : Nat} (hex : mid ≤ i ∨ hi ≤ j) (h : j ≤ hi) : i < mid → j = hi := by omega
theorem min_l {a b : Nat} (h : a ≤ b) : a = min a b := (Nat.min_eq_left h).symm
theorem min_r {a b : Nat} (h : ¬ a ≤ b) : b = min a b := (Nat.min_eq_right (by omega)).symm
theorem int_eq {a b : Nat} (h : a = b) : Value.int .i64 (a : Int) = Value.int .i64 (b : Int) := by rw [h]

set_option maxRecDepth 100000 in
set_option maxHeartbeats 8000000 in
theorem order_any (a1 a2 a3 a4 : Option Addr) (n m P c1 c2 c3 c4 : Nat) (L : List (Int × Int)) (N : List ByteArray) (Q : List Int) (S : List Nat) (w : World) (h1 : Row w a1 n 2 (ptCells L)) (hwf : WfPts L) (h2 : Row w a2 m 1 (N.flatMap strF)) (hin : srvIn L m) (h3 : Row w a3 P 1 (Q.flatMap u64F)) (h4 : Row w a4 P 1 (S.flatMap natF))
    (hS : ∀ (i s : Nat), S[i]? = some s → s < n) (hn : 0 < n) (hn' : n ≤ 65536) (hP : P ≤ 4) (hm : m ≤ 1048576) :
    Calls Trym.prog 44 #[.slice a1 n c1, .slice a2 m c2, .slice a3 P c3, .slice a4 P c4] w fun e w' => ∃ g, e = .returned (.slice (some ⟨g, 0, none⟩) (P * n) (P * n)) ∧ w.heap.size ≤ g ∧ OB w' g 3 ((srt (meetKey L N Q S n) 0 (P * n)).flatMap natF) ∧ Below w.heap.size w w' := by
  obtain ⟨i3, hi3, hz30, hz31, hz32⟩ := info_parts info3
  have HLS := hide (fun (x y : Nat) (hx : x < P * n) (hy : y < P * n) (wr : World) (hb : Below w.heap.size w wr) => less_any a1 a2 a3 a4 n m P c1 c2 c3 c4 x y L N Q S wr (h1.below hb) hwf (h2.below hb) hin (h3.below hb) (h4.below hb) hS hx hy hn hn' hP hm)
  clear h1 hwf h2 hin h3 h4 hS
  generalize meetKey L N Q S n = key at HLS ⊢
  have hPn : P * n ≤ 4 * n := Nat.mul_le_mul_right n hP
  obtain ⟨T, hT⟩ : ∃ T, T = P * n := ⟨_, rfl⟩
  have hT' : (P : Int) * (n : Int) = (T : Int) := by rw [hT]; simp
  have hTb : T ≤ 262144 := by omega
  have t1 : (T : Int) ≤ 262144 := by omega
  have uP : wrap64 ((P : Int) * n) = T := by rw [hT']; exact wrap_small (by omega) (by omega)
  rw [← hT] at HLS ⊢
  clear hPn hT hn hn' hP hm
  go_enter Trym.func44, Trym.ntmps44
  go_wp2_with (at_make; refine wpList_make_ob1 _ rfl _ _ 74 rfl 3 i3 (.int .i64 0) 1 Trym.underlying74 hi3 hz30 hz31 .i64 .i64 _ _ T T rfl rfl rfl rfl (Nat.le_refl _) (by rw [hz32]; omega) (by omega) ?_; intro w1 o1 b1)
  rename_i wA oA bA K0 hK0
  clear hi3 hz30 hz31 hz32 uP hT'
  rw [show (Value.int .i64 0).cells = #[Value.int .i64 0] from rfl, Nat.mul_one, made_nats] at oA o1
  have hg0 : w.heap.size < wA.heap.size := oA.lt
  have oA1 := oA.below oA.lt b1
  have bw : Below w.heap.size w w1 := bA.trans (b1.mono bA.size)
  clear oA bA b1
  generalize wA.heap.size = gz at *
  have nab : w.heap.size ≠ gz := by omega
  go_loopw [12] (fun i wr => ∃ (k : Nat) (M : List Nat), k ≤ T ∧ i = .int .i64 k ∧ M.length = T ∧ (∀ j, j < k → M[j]? = (List.range T)[j]?) ∧ OB wr w.heap.size 3 (M.flatMap natF) ∧ OB wr gz 3 ((List.replicate T 0).flatMap natF) ∧ Below w.heap.size w wr) (fun i _ => T - (intOf i).toNat)
  case atStart => exact ⟨0, _, Nat.zero_le _, rfl, by simp, fun j hj => by omega, oA1, o1, bw⟩
  case round =>
  clear oA1 o1 bw
  obtain ⟨k, M, hk, rfl, hM, hj, hoa, hob, hbel⟩ := hrel
  by_cases hlt : k < T
  · obtain ⟨u, d1⟩ := hoa.some (j := k) (by rw [nat_len]; omega)
    have d2 := hoa.frozen k
    have b1 : (k : Int) < (T : Int) := by omega
    have HS := hide (get_step1 (M := M) (L := List.range T) (by omega) (List.getElem?_range hlt) hj)
    have HA := hide hoa
    have HO := hide hob
    have HB := hide hbel
    have HM := hide hM
    clear hoa hob hbel hM hj
    go_wp2
    refine ⟨⟨k + 1, M.set k k, by omega, by go_num, by rw [List.length_set]; exact HM.out, HS.out, by rw [nat_set]; exact HA.out.set k _, HO.out.other (Ne.symm nab) _, HB.out.setCell (Nat.le_refl _) _⟩, by simp [intOf]; omega⟩
  have ek : k = T := by omega
  have eM : M = List.range T := get_ext1 hM (by simp) (fun j hjn => hj j (by omega))
  subst eM
  have HA0 := hide hoa
  have HO0 := hide hob
  have HB0 := hide hbel
  have hgz : w.heap.size ≤ gz := by omega
  clear hoa hob hbel hM hj
  go_wp2
  clear hlt hk ek
  go_loopw [10, 11, 13] (fun va vb vw wr => ∃ (ga gb wd : Nat) (A B : List Nat), va = .slice (some ⟨ga, 0, none⟩) T T ∧ vb = .slice (some ⟨gb, 0, none⟩) T T ∧ vw = .int .i64 wd ∧ 0 < wd ∧ wd ≤ 2 * T + 1 ∧ A.length = T ∧ B.length = T ∧ ga ≠ gb ∧ w.heap.size ≤ ga ∧ w.heap.size ≤ gb ∧ OB wr ga 3 (A.flatMap natF) ∧ OB wr gb 3 (B.flatMap natF) ∧ (∀ c, Blks key A wd T c) ∧ Below w.heap.size w wr) (fun _ _ vw _ => 2 * T + 2 - (intOf vw).toNat)
  case atStart => exact ⟨w.heap.size, gz, 1, _, _, rfl, rfl, rfl, by omega, by omega, by simp, by simp, nab, Nat.le_refl _, hgz, HA0.out, HO0.out, fun c => blks_one key T c, HB0.out⟩
  case round =>
  clear HA0 HO0 HB0 nab hgz hg0
  obtain ⟨ga, gb, wd, A, B, rfl, rfl, rfl, hw0, hw1, hAl, hBl, hne, hga, hgb, hoa, hob, hblk, hbel⟩ := hrel
  have HBK := hide hblk
  have HAl := hide hAl
  clear hblk hAl
  by_cases hwt : wd < T
  · have HA1 := hide hoa
    have HO1 := hide hob
    have HB1 := hide hbel
    have HBl := hide hBl
    clear hoa hob hbel hBl
    obtain ⟨wp, rfl⟩ : ∃ x, x = wr := ⟨_, rfl⟩
    go_wp2
    go_loopw [14] (fun vlo wr => ∃ (c lo : Nat) (B' : List Nat), lo = c * (2 * wd) ∧ vlo = .int .i64 lo ∧ lo ≤ T + 2 * wd ∧ B'.length = T ∧ OB wr ga 3 (A.flatMap natF) ∧ OB wr gb 3 (B'.flatMap natF) ∧ Blks key B' (2 * wd) T c ∧ Below w.heap.size w wr) (fun vlo _ => T - (intOf vlo).toNat)
    case atStart => exact ⟨0, 0, B, by simp, rfl, by omega, HBl.out, HA1.out, HO1.out, fun d hd => by omega, HB1.out⟩
    case round =>
    clear HA1 HO1 HB1 HBl
    obtain ⟨c, lo, B', hlo, rfl, hlT, hBl, hoa, hob, hblk, hbel⟩ := hrel
    have HO := hide hob
    have HA := hide hoa
    have HB := hide hbel
    have HK := hide hblk
    have HBl := hide hBl
    have HLO := hide hlo
    clear hob hoa hbel hblk hBl hlo
    by_cases hlt : lo < T
    · have HSG := hide (halves_at hw0 HBK.out HLO.out hlt)
      have t2 : (wd : Int) ≤ 262144 := by omega
      have t3 : (lo : Int) ≤ 262144 := by omega
      obtain ⟨wq, rfl⟩ : ∃ x, x = wr := ⟨_, rfl⟩
      go_upto_if 55 with fail
      go_cut [15] (fun v wc => ∃ mid : Nat, v = .int .i64 mid ∧ mid = min (lo + wd) T ∧ wq = wc)
      case first =>
        by_cases k1 : lo + wd ≤ T
        · have g1 : (lo : Int) + wd ≤ T := by omega
          go_wp2
          go_meet
          exact ⟨lo + wd, by simp, min_l k1, rfl⟩
        · have g1 : (T : Int) < (lo : Int) + wd := by omega
          go_wp2
          go_meet
          exact ⟨T, rfl, min_r k1, rfl⟩
      case rest =>
      obtain ⟨mid, rfl, hmid, rfl⟩ := hcut
      go_upto_if 63 with fail
      go_cut [16] (fun v wc => ∃ hi : Nat, v = .int .i64 hi ∧ hi = min (lo + 2 * wd) T ∧ wq = wc)
      case first =>
        by_cases k1 : lo + 2 * wd ≤ T
        · have g1 : (lo : Int) + 2 * wd ≤ T := by omega
          go_wp2
          go_meet
          exact ⟨lo + 2 * wd, by simp, min_l k1, rfl⟩
        · have g1 : (T : Int) < (lo : Int) + 2 * wd := by omega
          go_wp2
          go_meet
          exact ⟨T, rfl, min_r k1, rfl⟩
      case rest =>
      obtain ⟨hi, rfl, hhi, rfl⟩ := hcut
      obtain ⟨sg1, sg2⟩ := HSG.out
      rw [← hmid] at sg1 sg2
      rw [← hhi] at sg2
      have SG1 := hide sg1
      have SG2 := hide sg2
      have EH := hide hhi.symm
      have r1 : lo ≤ mid := by omega
      have r2 : mid ≤ hi := by omega
      have r3 : hi ≤ T := by omega
      clear sg1 sg2 HSG hmid hhi
      go_upto_block 6 with fail
      go_cut [17, 18, 19] (fun vi vj vo wc => ∃ (i j o : Nat) (B2 : List Nat), vi = .int .i64 i ∧ vj = .int .i64 j ∧ vo = .int .i64 o ∧ MI key w wc A B' ga gb T lo mid hi i j o B2 ∧ (mid ≤ i ∨ hi ≤ j))
      case first =>
        go_wp2_with fail
        go_loopw [17, 18, 19] (fun vi vj vo wr => ∃ (i j o : Nat) (B2 : List Nat), vi = .int .i64 i ∧ vj = .int .i64 j ∧ vo = .int .i64 o ∧ MI key w wr A B' ga gb T lo mid hi i j o B2) (fun vi vj _ _ => mid + hi - ((intOf vi).toNat + (intOf vj).toNat))
        case atStart => exact ⟨lo, mid, lo, B', rfl, rfl, rfl, MI.start key (by omega) (by omega) HBl.out HA.out HO.out HB.out⟩
        case round =>
        clear HA HO HB
        obtain ⟨i, j, o, B2, rfl, rfl, rfl, hmi⟩ := hrel
        have HMI := hide hmi
        obtain ⟨⟨p1, p2, p3, p4, p5⟩, hB2, hoa, hob, _, _, _, hbel⟩ := hmi
        by_cases hij : i < mid ∧ j < hi
        · obtain ⟨hi1, hj1⟩ := hij
          obtain ⟨x, hx1, hx2, hx3, hx4⟩ := Seg.get key SG1.out p1 hi1
          obtain ⟨y, hy1, hy2, hy3, hy4⟩ := Seg.get key SG2.out p3 hj1
          have d1 := ob_nat hoa hx1
          have d2 := ob_nat hoa hy1
          have HLX := hide (fun (wx : World) (hbr : Below wr.heap.size wr wx) => HLS.out y x (by omega) (by omega) wx (hbel.trans (hbr.mono hbel.size)))
          have HST := hide (merge_step key p1 hi1 p3 hj1 hx2 hy2)
          have l1 := hoa.lt
          have l2 := hob.lt
          have q1 : (i : Int) < (mid : Int) := by omega
          have q2 : (j : Int) < (hi : Int) := by omega
          have q3 : (i : Int) < (T : Int) := by omega
          have q4 : (j : Int) < (T : Int) := by omega
          have q5 : (o : Int) < (T : Int) := by omega
          have HOA := hide hoa
          have HOB := hide hob
          have HB2 := hide hB2
          have HX1 := hide hx1
          have HY1 := hide hy1
          clear hoa hob hbel hx1 hx2 hy1 hy2 hB2
          go_upto_region 24 with fail
          go_cut [88] (fun v wx => v = .bool (lessK (key y) (key x)) ∧ Below wr.heap.size wr wx)
          case first =>
            go_region_held3 (fun w' => ga < w'.heap.size ∧ w'.cell? ⟨ga, i, none⟩ = some (.int .i64 x) ∧ w'.cell? ⟨ga, j, none⟩ = some (.int .i64 y)) (first | (simp [go_sem, *]; done) | (simp [go_sem, *]; omega)) ((go_at_call 58; refine (HLX.out _ (by go_grown)).mono ?_; rintro e w' ⟨rfl, hb'⟩; have hcc := bcell1 (undrew1 hb'); have hsz := (undrew1 hb').size))
            all_goals
              go_wp2
              go_meet
              exact ⟨rfl, undrew1 (by assumption)⟩
          case rest =>
          obtain ⟨rfl, hbx⟩ := hcut
          have oa := HOA.out.below l1 hbx
          have ob := HOB.out.below l2 hbx
          have e1 := ob_nat oa HX1.out
          have e2 := ob_nat oa HY1.out
          obtain ⟨u, e3⟩ := ob.some (j := o) (by rw [nat_len, HB2.out]; omega)
          have e4 := ob.frozen o
          have l1' := oa.lt
          have l2' := ob.lt
          cases hl : lessK (key y) (key x) with
          | true =>
            have hz := HST.out
            rw [hl, if_pos rfl] at hz
            have HP := hide (MI.put key HMI.out hne hgb (i' := i) (j' := j + 1) (x := y) ⟨by omega, by omega⟩ ⟨by omega, by omega⟩ (by omega) (by omega) hz hbx)
            clear hl hz HST hbx oa ob HMI HLX HOA HOB HB2 d1 d2 e1
            go_wp2
            refine ⟨⟨i, j + 1, o + 1, B2.set o y, rfl, by go_num, by go_num, HP.out⟩, by simp [intOf]; omega⟩
          | false =>
            have hz := HST.out
            rw [hl, if_neg (by simp)] at hz
            have HP := hide (MI.put key HMI.out hne hgb (i' := i + 1) (j' := j) (x := x) ⟨by omega, by omega⟩ ⟨by omega, by omega⟩ (by omega) (by omega) hz hbx)
            clear hl hz HST hbx oa ob HMI HLX HOA HOB HB2 d1 d2 e2
            go_wp2
            refine ⟨⟨i + 1, j, o + 1, B2.set o x, by go_num, rfl, by go_num, HP.out⟩, by simp [intOf]; omega⟩
        · clear hoa hob hbel hB2
          by_cases hi1 : i < mid
          · have hj1 : hi ≤ j := by omega
            have q1 : (i : Int) < (mid : Int) := by omega
            have q2 : ¬ (j : Int) < (hi : Int) := by omega
            clear hij
            go_wp2
            go_meet
            exact ⟨i, j, o, B2, rfl, rfl, rfl, HMI.out, .inr hj1⟩
          · have q1 : ¬ (i : Int) < (mid : Int) := by omega
            clear hij
            go_wp2
            go_meet
            exact ⟨i, j, o, B2, rfl, rfl, rfl, HMI.out, .inl (by omega)⟩
      case rest =>
      obtain ⟨i, j, o, B2, rfl, rfl, rfl, hmi, hex⟩ := hcut
      have HMI := hide hmi
      obtain ⟨⟨p1, p2, p3, p4, p5⟩, _⟩ := hmi
      obtain ⟨w5, rfl⟩ : ∃ x, x = wc := ⟨_, rfl⟩
      clear HA HO HB HLS
      go_upto_block 8 with fail
      go_cut [17, 19] (fun vi vo wc => ∃ (o' : Nat) (B3 : List Nat), vi = .int .i64 mid ∧ vo = .int .i64 o' ∧ MI key w wc A B' ga gb T lo mid hi mid j o' B3)
      case first =>
        go_wp2_with fail
        go_loopw [17, 19] (fun vi vo wr => ∃ (i' o' : Nat) (B3 : List Nat), vi = .int .i64 i' ∧ vo = .int .i64 o' ∧ MI key w wr A B' ga gb T lo mid hi i' j o' B3 ∧ (i' < mid → j = hi)) (fun vi _ _ => mid - (intOf vi).toNat)
        case atStart => exact ⟨i, o, B2, rfl, rfl, HMI.out, ex5 hex p4⟩
        case round =>
        clear HMI hex p1 p2 p5
        obtain ⟨i5, o5, B3, rfl, rfl, hmi, hij⟩ := hrel
        have HMI := hide hmi
        obtain ⟨⟨r1, r2, r3, r4, r5⟩, hB2, hoa, hob, _, _, _, hbel⟩ := hmi
        by_cases hi5 : i5 < mid
        · have ej := hij hi5
          obtain ⟨x, hx1, hx2, hx3, hx4⟩ := Seg.get key SG1.out r1 hi5
          have d1 := ob_nat hoa hx1
          obtain ⟨u, d2⟩ := hob.some (j := o5) (by rw [nat_len]; omega)
          have d3 := hob.frozen o5
          have v1 : (i5 : Int) < (mid : Int) := by omega
          have v2 : (i5 : Int) < (T : Int) := by omega
          have v3 : (o5 : Int) < (T : Int) := by omega
          have HP := hide (MI.put key HMI.out hne hgb (i' := i5 + 1) (j' := j) (x := x) ⟨by omega, by omega⟩ ⟨by omega, by omega⟩ (by omega) (by omega) (by rw [ej]; exact merge_left key r1 (by omega) hx2) (Below.refl _ _))
          have HJ := hide (fun (_ : i5 + 1 < mid) => ej)
          clear hoa hob hbel hx1 hx2 hB2 ej hij
          go_wp2
          refine ⟨⟨i5 + 1, o5 + 1, B3.set o5 x, by go_num, by go_num, HP.out, HJ.out⟩, by simp [intOf]; omega⟩
        · have v1 : ¬ ((i5 : Int) < (mid : Int)) := by omega
          have ei := hide (show i5 = mid by omega)
          have HM6 := hide (MI.to_mid HMI.out ei.out)
          clear hoa hob hbel hB2 hij HMI
          go_wp2
          go_meet
          exact ⟨o5, B3, int_eq ei.out, rfl, HM6.out⟩
      case rest =>
      clear HMI hex p1 p2 p5
      obtain ⟨o5, B3, rfl, rfl, hmi⟩ := hcut
      have HM6 := hide hmi
      clear hmi
      obtain ⟨w6, rfl⟩ : ∃ x, x = wc := ⟨_, rfl⟩
      go_wp2_with fail
      go_loopw [18, 19] (fun vj vo wr => ∃ (j' o' : Nat) (B4 : List Nat), vj = .int .i64 j' ∧ vo = .int .i64 o' ∧ MI key w wr A B' ga gb T lo mid hi mid j' o' B4) (fun vj _ _ => hi - (intOf vj).toNat)
      case atStart => exact ⟨j, o5, B3, rfl, rfl, HM6.out⟩
      case round =>
      clear HM6
      obtain ⟨j6, o6, B4, rfl, rfl, hmi⟩ := hrel
      have HMI := hide hmi
      obtain ⟨⟨z1, z2, z3, z4, z5⟩, hB2, hoa, hob, hpre, _, _, hbel⟩ := hmi
      by_cases hj6 : j6 < hi
      · obtain ⟨y, hy1, hy2, hy3, hy4⟩ := Seg.get key SG2.out z3 hj6
        have d1 := ob_nat hoa hy1
        obtain ⟨u, d2⟩ := hob.some (j := o6) (by rw [nat_len]; omega)
        have d3 := hob.frozen o6
        have v4 : (j6 : Int) < (hi : Int) := by omega
        have v5 : (j6 : Int) < (T : Int) := by omega
        have v6 : (o6 : Int) < (T : Int) := by omega
        have HP := hide (MI.put key HMI.out hne hgb (i' := mid) (j' := j6 + 1) (x := y) ⟨by omega, by omega⟩ ⟨by omega, by omega⟩ (by omega) (by omega) (merge_right key (by omega) z3 hy2) (Below.refl _ _))
        clear hoa hob hbel hy1 hy2 hB2 hpre
        go_wp2
        refine ⟨⟨j6 + 1, o6 + 1, B4.set o6 y, by go_num, by go_num, HP.out⟩, by simp [intOf]; omega⟩
      · have v4 : ¬ ((j6 : Int) < (hi : Int)) := by omega
        have ej6 : j6 = hi := by omega
        have HN := hide (next_at HK.out HLO.out EH.out HMI.out rfl ej6)
        clear ej6
        have H1 := hide hB2
        have H2 := hide hoa
        have H3 := hide hob
        have H4 := hide hbel
        clear hoa hob hbel hB2 hpre
        go_wp2
        exact ⟨⟨c + 1, lo + 2 * wd, B4, by rw [HLO.out, Nat.add_mul c 1 (2 * wd), Nat.one_mul], by go_num, by omega, H1.out, H2.out, H3.out, HN.out, H4.out⟩, by simp [intOf]; omega⟩
    · have HBn := hide (blks_all key (by omega) HK.out (by rw [← HLO.out]; omega))
      go_wp2
      refine ⟨⟨gb, ga, 2 * wd, B', A, rfl, rfl, by go_num, by omega, by omega, HBl.out, HAl.out, Ne.symm hne, hgb, hga, HO.out, HA.out, HBn.out, HB.out⟩, by simp [intOf]; omega⟩
  · go_wp2
    go_ret
    have e := blks_end key HBK.out (by omega) HAl.out
    subst e
    exact ⟨ga, rfl, hga, hoa, hbel⟩
end Go.Proofs.Qxb6601991aMods
