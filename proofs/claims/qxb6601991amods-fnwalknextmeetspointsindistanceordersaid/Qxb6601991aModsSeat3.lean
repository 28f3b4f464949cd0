/-
  zzCloneStrings (27), zzServers (31), zzLookup (32), ZZMakeRoster (28), ZZSeatWeight (33), ZZSeatNumber (34).
-/
import Derived.Test.Qxb6601991aModsSeat2
namespace Go.Proofs.Qxb6601991aMods
open Go.ChangeShapes Go.WideShapes Go.ChangeAt Go.RowKit
set_option linter.unusedVariables false

theorem eql_nil47 (a : Option Addr) (l c : Nat) (w : World) : (binOp .eql 47 (.slice a l c) (.slice none 0 0)).run Trym.prog w = .ok (.bool a.isNone) w :=
  Lib.run_eql_slice_nil w 47 9 a l c 0 0 Trym.underlying47
theorem info9 : (Trym.prog.info? 9).map (fun i => (i.zero, i.size, i.bytes)) = some (some (.string ⟨#[]⟩), 1, 16) := by kernel_rfl
theorem info94 : (Trym.prog.info? 94).map (fun i => (i.zero, i.size, i.bytes)) = some (some (.agg #[.string ⟨#[]⟩, .int .i64 0]), 2, 24) := by kernel_rfl
theorem info70 : (Trym.prog.info? 70).map (fun i => (i.zero, i.size, i.bytes)) = some (some (.agg #[.int .i64 0, .int .u32 0]), 2, 16) := by kernel_rfl

/-! ### Rows of any elements: a store -/
section
variable {α : Type} {f : α → List Value} {sz : Nat}
theorem flat_set (hf : ∀ x, (f x).length = sz) : ∀ (L : List α) (k : Nat) (x : α), k < L.length → (L.set k x).flatMap f = (L.flatMap f).take (k * sz) ++ f x ++ (L.flatMap f).drop (k * sz + sz)
  | [], _, _, h => by simp at h
  | y :: r, 0, x, _ => by
    have := hf y
    simp [this]
  | y :: r, k + 1, x, h => by
    have ih := flat_set hf r k x (by simpa using h)
    have hy := hf y
    rw [List.set_cons_succ, List.flatMap_cons, List.flatMap_cons, ih]
    have e1 : (k + 1) * sz = (f y).length + k * sz := by rw [hy, Nat.add_mul]; omega
    rw [List.take_append, List.drop_append, e1]
    rw [List.take_of_length_le (show (f y).length ≤ (f y).length + k * sz by omega), List.drop_of_length_le (show (f y).length ≤ (f y).length + k * sz + sz by omega)]
    simp only [List.append_assoc, List.nil_append]
    congr 2
    · congr 1; omega
    · congr 2; omega
end

theorem get_ext {α : Type} {M L : List α} {n : Nat} (h1 : M.length = n) (h2 : L.length = n) (h : ∀ j, j < n → M[j]? = L[j]?) : M = L := by
  apply List.ext_getElem?
  intro j
  by_cases hjn : j < n
  · exact h j hjn
  · rw [List.getElem?_eq_none (by omega), List.getElem?_eq_none (by omega)]
theorem get_step {α : Type} {M L : List α} {k : Nat} {x : α} (hk : k < M.length) (hp : L[k]? = some x) (h : ∀ j, j < k → M[j]? = L[j]?) : ∀ j, j < k + 1 → (M.set k x)[j]? = L[j]? := by
  intro j hj
  by_cases e : j = k
  · subst e; rw [hp]; simp [hk]
  · rw [List.getElem?_set_ne (by omega)]; exact h j (by omega)

theorem str_set (M : List ByteArray) (k : Nat) (s : ByteArray) : (M.set k s).flatMap strF = (M.flatMap strF).set k (.string s) := by
  rw [str_flat, str_flat, List.map_set]
theorem str_len (M : List ByteArray) : (M.flatMap strF).length = M.length := by rw [str_flat, List.length_map]
theorem made_strs (n : Nat) : (madeCells #[Value.string ⟨#[]⟩] n).toList = (List.replicate n (⟨#[]⟩ : ByteArray)).flatMap strF := by
  rw [toList_madeCells_one, str_flat]; simp

/-! ### zzCloneStrings -/
theorem cloneS_nil (w : World) : Calls Trym.prog 27 #[.slice none 0 0] w fun e w' => e = .returned (.slice none 0 0) ∧ w' = w := by
  have hq := eql_nil47 none 0 0
  go_enter Trym.func27, Trym.ntmps27
  go_wp2
  go_ret
  exact ⟨rfl, rfl⟩

set_option maxHeartbeats 1000000 in
theorem cloneS_some (x : Addr) (n c : Nat) (L : List ByteArray) (w : World) (hr : Row w (some x) n 1 (L.flatMap strF)) (hn : n ≤ 1048576) :
    Calls Trym.prog 27 #[.slice (some x) n c] w fun e w' => ∃ g, e = .returned (.slice (some ⟨g, 0, none⟩) n n) ∧ w.heap.size ≤ g ∧ OB w' g 9 (L.flatMap strF) ∧ Below w.heap.size w w' := by
  obtain ⟨i0, hi, hz0, hz1, hz2⟩ := info_parts info9
  have hq := eql_nil47 (some x) n c
  have HR := hide hr
  clear hr
  go_enter Trym.func27, Trym.ntmps27
  go_wp2_with (at_make; refine wpList_make_full _ rfl _ _ 47 rfl w.heap.size 9 i0 (.string ⟨#[]⟩) 1 Trym.underlying47 hi hz0 hz1 .i64 .i64 _ _ n rfl rfl rfl rfl (by rw [hz2]; omega) (by unfold maxLen; omega) (Nat.le_refl _) ?_; intro w1 o1 g1)
  have hl0 : L.length = n := HR.out.llen (fun _ => rfl) (by omega)
  have ho1 : OB w1 w.heap.size 9 ((List.replicate n (⟨#[]⟩ : ByteArray)).flatMap strF) := by
    have := own_full o1
    rw [show (Value.string ⟨#[]⟩).cells = #[Value.string ⟨#[]⟩] from rfl, Nat.mul_one, made_strs] at this
    exact this
  have hb1 : Below w.heap.size w w1 := grown_below g1 (Nat.le_refl _) (fun _ h => by cases h)
  clear o1 g1 hi hz0 hz1 hz2
  have HL := hide hl0
  clear hl0
  go_loopw [4] (fun i wr => ∃ k : Nat, k ≤ n ∧ i = .int .i64 k ∧ ∃ M : List ByteArray, M.length = n ∧ (∀ j, j < k → M[j]? = L[j]?) ∧ OB wr w.heap.size 9 (M.flatMap strF) ∧ Below w.heap.size w wr) (fun i _ => n - (intOf i).toNat)
  case atStart => exact ⟨0, Nat.zero_le _, rfl, _, by simp, fun j hj => by omega, ho1, hb1⟩
  case round =>
    obtain ⟨k, hk, rfl, M, hM, hj, hob, hbel⟩ := hrel
    clear ho1 hb1
    by_cases hlt : k < n
    · obtain ⟨b, off, s, hx, hb, hp, c1⟩ := (HR.out.below hbel).str hlt
      cases hx
      obtain ⟨u, c2⟩ := hob.some (j := k) (by rw [str_len]; omega)
      have f2 := hob.frozen k
      have b1 : (k : Int) < (n : Int) := by omega
      have S := hide (get_step (by omega) hp hj)
      have HO := hide hob
      have HB := hide hbel
      have HM := hide hM
      clear hob hbel hM hj hp
      go_wp2
      go_roundw
      case rel => exact ⟨k + 1, by omega, by go_num, M.set k s, by rw [List.length_set]; exact HM.out, S.out, by rw [str_set]; exact HO.out.set k _, HB.out.setCell (Nat.le_refl _) _⟩
      case measure => simp [intOf]; omega
    · go_wp2
      go_ret
      have e : M = L := get_ext hM HL.out (fun j hjn => hj j (by omega))
      subst e
      exact ⟨_, rfl, Nat.le_refl _, hob, hbel⟩

/-! ### zzServers -/
theorem two_set {α : Type} {f : α → List Value} (u v : Value) (hf : ∀ x, (f x).length = 2) (L : List α) (k : Nat) (x : α) (hx : f x = [u, v]) (hk : k < L.length) : (L.set k x).flatMap f = ((L.flatMap f).set (k * 2) u).set (k * 2 + 1) v := by
  rw [flat_set hf L k x hk, hx]
  have hl : (L.flatMap f).length = L.length * 2 := flat_len f 2 L (fun x _ => hf x)
  apply List.ext_getElem?
  intro j
  rw [List.getElem?_set, List.getElem?_set]
  by_cases h1 : k * 2 + 1 = j
  · subst h1
    rw [if_pos rfl, if_pos (by rw [List.length_set, hl]; omega), List.append_assoc, List.getElem?_append_right (by rw [List.length_take]; omega)]
    rw [List.length_take, hl, Nat.min_eq_left (by omega)]
    simp
  · rw [if_neg h1]
    by_cases h2 : k * 2 = j
    · subst h2
      rw [if_pos rfl, if_pos (by rw [hl]; omega), List.append_assoc, List.getElem?_append_right (by rw [List.length_take]; omega)]
      rw [List.length_take, hl, Nat.min_eq_left (by omega)]
      simp
    · rw [if_neg h2]
      by_cases h3 : j < k * 2
      · rw [List.append_assoc, List.getElem?_append_left (by rw [List.length_take]; omega), List.getElem?_take, if_pos h3]
      · rw [List.getElem?_append_right (by simp; omega)]
        simp only [List.length_append, List.length_take, hl, List.length_cons, List.length_nil]
        rw [Nat.min_eq_left (by omega), List.getElem?_drop]
        congr 1
        omega
theorem made_srvs (n : Nat) : (madeCells #[Value.string ⟨#[]⟩, Value.int .i64 0] (n * 2)).toList = (List.replicate n ((⟨#[]⟩ : ByteArray), (0 : Int))).flatMap srvF := by
  apply List.ext_getElem?
  intro j
  by_cases hj : j < n * 2
  · have h1 : (madeCells #[Value.string ⟨#[]⟩, Value.int .i64 0] (n * 2)).toList[j]? = some (#[Value.string ⟨#[]⟩, Value.int .i64 0][j % 2]!) := by simp [madeCells, hj]
    have hjj : j = j / 2 * 2 + j % 2 := by omega
    rw [h1]
    conv => rhs; rw [hjj]
    rw [flat_get srvF 2 _ (fun _ _ => rfl) _ _ (by omega), List.getElem?_replicate, if_pos (by omega)]
    have : j % 2 = 0 ∨ j % 2 = 1 := by omega
    rcases this with e | e <;> rw [e] <;> rfl
  · rw [List.getElem?_eq_none (by simp [madeCells]; omega), List.getElem?_eq_none (by rw [flat_len srvF 2 _ (fun _ _ => rfl)]; simp; omega)]
theorem made_seats (n : Nat) : (madeCells #[Value.int .i64 0, Value.int .u32 0] (n * 2)).toList = (List.replicate n ((0 : Int), (0 : Int))).flatMap seatF := by
  apply List.ext_getElem?
  intro j
  by_cases hj : j < n * 2
  · have h1 : (madeCells #[Value.int .i64 0, Value.int .u32 0] (n * 2)).toList[j]? = some (#[Value.int .i64 0, Value.int .u32 0][j % 2]!) := by simp [madeCells, hj]
    have hjj : j = j / 2 * 2 + j % 2 := by omega
    rw [h1]
    conv => rhs; rw [hjj]
    rw [flat_get seatF 2 _ (fun _ _ => rfl) _ _ (by omega), List.getElem?_replicate, if_pos (by omega)]
    have : j % 2 = 0 ∨ j % 2 = 1 := by omega
    rcases this with e | e <;> rw [e] <;> rfl
  · rw [List.getElem?_eq_none (by simp [madeCells]; omega), List.getElem?_eq_none (by rw [flat_len seatF 2 _ (fun _ _ => rfl)]; simp; omega)]

theorem srv_set (M : List (ByteArray × Int)) (k : Nat) (s : ByteArray) (x : Int) (hk : k < M.length) : (M.set k (s, x)).flatMap srvF = ((M.flatMap srvF).set (k * 2) (.string s)).set (k * 2 + 1) (.int .i64 x) :=
  two_set _ _ (fun _ => rfl) M k (s, x) rfl hk
theorem seat_set (M : List (Int × Int)) (k : Nat) (s : Int) (x : Int) (hk : k < M.length) : (M.set k (s, x)).flatMap seatF = ((M.flatMap seatF).set (k * 2) (.int .i64 s)).set (k * 2 + 1) (.int .u32 x) :=
  two_set _ _ (fun _ => rfl) M k (s, x) rfl hk
theorem srv_len (M : List (ByteArray × Int)) : (M.flatMap srvF).length = M.length * 2 := flat_len srvF 2 M (fun _ _ => rfl)
theorem seat_len (M : List (Int × Int)) : (M.flatMap seatF).length = M.length * 2 := flat_len seatF 2 M (fun _ _ => rfl)

set_option maxRecDepth 100000 in
set_option maxHeartbeats 2000000 in
theorem servers (a : Option Addr) (n c : Nat) (L : List (ByteArray × Int)) (w : World) (hr : Row w a n 2 (L.flatMap srvF)) (hn : n ≤ 65536) :
    Calls Trym.prog 31 #[.slice a n c] w fun e w' => ∃ g, e = .returned (.slice (some ⟨g, 0, none⟩) n n) ∧ w.heap.size ≤ g ∧ OB w' g 94 (L.flatMap srvF) ∧ Below w.heap.size w w' := by
  obtain ⟨i0, hi, hz0, hz1, hz2⟩ := info_parts info94
  have HR := hide hr
  clear hr
  go_enter Trym.func31, Trym.ntmps31
  go_wp2_with (at_make; refine wpList_make_full _ rfl _ _ 60 rfl w.heap.size 94 i0 (.agg #[.string ⟨#[]⟩, .int .i64 0]) 2 Trym.underlying60 hi hz0 hz1 .i64 .i64 _ _ n rfl rfl rfl rfl (by rw [hz2]; omega) (by unfold maxLen; omega) (Nat.le_refl _) ?_; intro w1 o1 g1)
  have ho1 : OB w1 w.heap.size 94 ((List.replicate n ((⟨#[]⟩ : ByteArray), (0 : Int))).flatMap srvF) := by
    have := own_full o1
    rw [show (Value.agg #[Value.string ⟨#[]⟩, Value.int .i64 0]).cells = #[Value.string ⟨#[]⟩, Value.int .i64 0] from rfl, made_srvs] at this
    exact this
  have hb1 : Below w.heap.size w w1 := grown_below g1 (Nat.le_refl _) (fun _ h => by cases h)
  clear o1 g1 hi hz0 hz1 hz2
  go_loopw [4] (fun i wr => ∃ k : Nat, k ≤ n ∧ i = .int .i64 k ∧ ∃ M : List (ByteArray × Int), M.length = n ∧ (∀ j, j < k → M[j]? = L[j]?) ∧ OB wr w.heap.size 94 (M.flatMap srvF) ∧ Below w.heap.size w wr) (fun i _ => n - (intOf i).toNat)
  case atStart => exact ⟨0, Nat.zero_le _, rfl, _, by simp, fun j hj => by omega, ho1, hb1⟩
  case round =>
    obtain ⟨k, hk, rfl, M, hM, hj, hob, hbel⟩ := hrel
    clear ho1 hb1
    by_cases hlt : k < n
    · obtain ⟨b, off, s, wt, rfl, hlt', hp, c1, c2⟩ := (HR.out.below hbel).srv hlt
      have b1 : (k : Int) < (n : Int) := by omega
      obtain ⟨u1, e1⟩ := hob.some (j := k * 2) (by rw [srv_len]; omega)
      obtain ⟨u2, e2⟩ := hob.some (j := k * 2 + 1) (by rw [srv_len]; omega)
      have f1 := hob.frozen (k * 2)
      have f2 := hob.frozen (k * 2 + 1)
      have S := hide (get_step (by omega) hp hj)
      have R := hide (show OB ((wr.setCell ⟨w.heap.size, k * 2, none⟩ (.string s)).setCell ⟨w.heap.size, k * 2 + 1, none⟩ (.int .i64 wt)) w.heap.size 94 ((M.set k (s, wt)).flatMap srvF) by
        rw [srv_set M k s wt (by omega)]; exact (hob.set (k * 2) _).set (k * 2 + 1) _)
      have HM := hide hM
      have HB := hide hbel
      clear hob hbel hM hj hp
      go_wp2
      go_region
      all_goals
        go_wp2
        go_roundw
        case rel => exact ⟨k + 1, by omega, by go_num, M.set k (s, wt), by rw [List.length_set]; exact HM.out, S.out, R.out, ((HB.out.setCell (Nat.le_refl _) _).setCell (Nat.le_refl _) _).drew⟩
        case measure => simp [intOf]; omega
    · go_wp2
      go_ret
      have e : M = L := get_ext hM (HR.out.llen (fun _ => rfl) (by omega)) (fun j hjn => hj j (by omega))
      subst e
      exact ⟨_, rfl, Nat.le_refl _, hob, hbel⟩

/-! ### zzLookup -/
theorem tl_beq (a b : ByteArray) : (a.toList == b.toList) = decide (a = b) := by
  rw [ByteArray.toList_eq, ByteArray.toList_eq]
  by_cases h : a = b
  · subst h; simp
  · rw [decide_eq_false h]
    refine Bool.eq_false_iff.2 fun h' => h ?_
    have := eq_of_beq h'
    cases a; cases b
    simp only [Array.toList_inj] at this
    rw [this]

theorem last_step {M : List (ByteArray × Int × Int)} {k : Nat} {s : ByteArray} {v : Int × Int} (hx : M[k]? = some (s, v)) (hno : ∀ (j : Nat) (x : ByteArray × Int × Int), k < j → M[j]? = some x → x.1 ≠ s) : last M s = some v := by
  have hk := (List.getElem?_eq_some_iff.1 hx).1
  have hsp : M = M.take (k + 1) ++ M.drop (k + 1) := (List.take_append_drop _ _).symm
  rw [hsp, take_snoc' hx]
  unfold last
  rw [List.foldl_append, List.foldl_append]
  simp only [List.foldl_cons, List.foldl_nil, if_true]
  have hall : ∀ (l : List (ByteArray × Int × Int)), (∀ x ∈ l, x.1 ≠ s) → ∀ o : Option (Int × Int), l.foldl (fun o m => if s = m.1 then some m.2 else o) o = o := by
    intro l
    induction l with
    | nil => intro _ o; rfl
    | cons y r ih =>
      intro h o
      have hy : ¬ s = y.1 := fun e => h y (by simp) e.symm
      simp only [List.foldl_cons, if_neg hy]
      exact ih (fun x hx => h x (by simp [hx])) o
  refine hall _ (fun x hx' => ?_) _
  obtain ⟨j, hj⟩ := List.getElem?_of_mem hx'
  rw [List.getElem?_drop] at hj
  exact hno _ x (by omega) hj
theorem last_none {M : List (ByteArray × Int × Int)} {s : ByteArray} (hno : ∀ (j : Nat) (x : ByteArray × Int × Int), M[j]? = some x → x.1 ≠ s) : last M s = none := by
  have hall : ∀ (l : List (ByteArray × Int × Int)), (∀ x ∈ l, x.1 ≠ s) → ∀ o : Option (Int × Int), l.foldl (fun o m => if s = m.1 then some m.2 else o) o = o := by
    intro l
    induction l with
    | nil => intro _ o; rfl
    | cons y r ih =>
      intro h o
      have hy : ¬ s = y.1 := fun e => h y (by simp) e.symm
      simp only [List.foldl_cons, if_neg hy]
      exact ih (fun x hx => h x (by simp [hx])) o
  exact hall M (fun x hx => by obtain ⟨j, hj⟩ := List.getElem?_of_mem hx; exact hno j x hj) none

/-- What zzLookup hands back. -/
def lookVal (s : ByteArray) : Option (Int × Int) → Value
  | some v => .tuple #[.agg #[.string s, .int .i64 v.1, .int .u32 v.2], .bool true]
  | none => .tuple #[.agg #[.string ⟨#[]⟩, .int .i64 0, .int .u32 0], .bool false]

set_option maxRecDepth 100000 in
set_option maxHeartbeats 2000000 in
theorem lookup_any (a : Option Addr) (n c : Nat) (L : List (ByteArray × Int × Int)) (s : ByteArray) (w : World) (hr : Row w a n 3 (L.flatMap memF)) (hn : n ≤ 65536) :
    Calls Trym.prog 32 #[.slice a n c, .string s] w fun e w' => e = .returned (lookVal s (last L s)) ∧ Below w.heap.size w w' := by
  have HR := hide hr
  clear hr
  go_enter Trym.func32, Trym.ntmps32
  go_wp2
  go_loop [6] (fun i => ∃ k : Nat, k ≤ n ∧ i = .int .i64 ((k : Int) - 1) ∧ ∀ (j : Nat) (x : ByteArray × Int × Int), k ≤ j → L[j]? = some x → x.1 ≠ s) (fun i => (intOf i + 1).toNat)
  case atStart => exact ⟨n, Nat.le_refl _, rfl, fun j x hj hx => absurd (List.getElem?_eq_some_iff.1 hx).1 (by rw [HR.out.llen (fun _ => rfl) (by omega)]; omega)⟩
  case round =>
    obtain ⟨k, hk, rfl, hno⟩ := hrel
    have HN := hide hno
    clear hno
    by_cases h0 : k = 0
    · subst h0
      have HL := hide (last_none (fun j x hx => HN.out j x (Nat.zero_le _) hx))
      go_wp2
      go_returns
      rw [HL.out]
      exact ⟨rfl, by go_grown⟩
    · obtain ⟨k, rfl⟩ : ∃ k', k = k' + 1 := ⟨k - 1, by omega⟩
      obtain ⟨b, off, s', wt, no, rfl, hb, hx, c1, c2, c3⟩ := HR.out.mem (k := k) (by omega)
      have b1 : (k : Int) < (n : Int) := by omega
      have ek : ((k + 1 : Nat) : Int) - 1 = (k : Int) := by omega
      rw [ek]
      clear ek
      by_cases hs : s' = s
      · subst hs
        have HL := hide (last_step hx (fun j x hj hx' => HN.out j x hj hx'))
        clear hx
        go_wp2
        go_returns
        rw [HL.out]
        exact ⟨rfl, by go_grown⟩
      · have HX := hide hx
        clear hx
        have hq : (s'.toList == s.toList) = false := by rw [tl_beq]; simp [hs]
        go_wp2
        refine ⟨⟨k, by omega, rfl, fun j x hj hx' => ?_⟩, by simp [intOf]⟩
        by_cases e : j = k
        · subst e
          rw [HX.out] at hx'
          cases hx'
          exact hs
        · exact HN.out j x (by omega) hx'

/-! ### The roster; a seat's two numbers -/
theorem mkRoster (b : Nat) (w : World) : Calls Trym.prog 28 #[.map (some b)] w fun e w' => e = .returned (.pointer (some ⟨w.heap.size, 0, none⟩)) ∧ w' = w.alloc (.cells #[.map (some b), .map none, .int .i64 0] 91) := by
  go_enter Trym.func28, Trym.ntmps28
  go_wp2
  go_ret
  exact ⟨rfl, rfl⟩
theorem seatW (x y : Int) (w : World) : Calls Trym.prog 33 #[.agg #[.int .i64 x, .int .u32 y]] w fun e w' => e = .returned (.int .i64 x) ∧ Below w.heap.size w w' := by
  go_enter Trym.func33, Trym.ntmps33
  go_wp2
  go_ret
  exact ⟨rfl, by go_grown⟩
theorem seatN (x y : Int) (w : World) : Calls Trym.prog 34 #[.agg #[.int .i64 x, .int .u32 y]] w fun e w' => e = .returned (.int .u32 y) ∧ Below w.heap.size w w' := by
  go_enter Trym.func34, Trym.ntmps34
  go_wp2
  go_ret
  exact ⟨rfl, by go_grown⟩
end Go.Proofs.Qxb6601991aMods
