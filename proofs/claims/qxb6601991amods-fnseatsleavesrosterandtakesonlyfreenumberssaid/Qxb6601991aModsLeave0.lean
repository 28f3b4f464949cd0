/-
  FnSeatsLeavesRosterAndTakesOnlyFreeNumbers: the plain law; zzNamedLater (36); a seat's two numbers, the world written out.
-/
import Derived.Test.Qxb6601991aModsSeat5
namespace Go.Proofs.Qxb6601991aMods
open Go.ChangeShapes Go.WideShapes Go.ChangeAt Go.RowKit
set_option linter.unusedVariables false

/-! ### The plain law -/
theorem free_spec (N : List ByteArray) {s : ByteArray} (h : N[firstFree N]? = some s) : s = noName := by
  have hl := (List.getElem?_eq_some_iff.1 h).1
  unfold firstFree at h hl
  have := List.findIdx_getElem (xs := N) (p := fun s => decide (s = noName)) (w := hl)
  rw [List.getElem?_eq_getElem hl] at h
  simp only [Option.some.injEq] at h
  rw [h] at this
  simpa using this
theorem place_keep {N : List ByteArray} {k : Nat} {s c : ByteArray} (h : N[k]? = some s) (hs : s ≠ noName) : (place N (firstFree N) c)[k]? = some s := by
  have hne : k ≠ firstFree N := fun e => hs (free_spec N (by rw [← e]; exact h))
  have hk := (List.getElem?_eq_some_iff.1 h).1
  unfold place
  split
  · rw [List.getElem?_set_ne (by omega)]; exact h
  · rw [List.getElem?_append_left hk]; exact h
theorem place_at (N : List ByteArray) (c : ByteArray) : (place N (firstFree N) c)[firstFree N]? = some c := by
  have hl := firstFree_le N
  unfold place
  split
  · rename_i h; simp [h]
  · rename_i h
    have e : firstFree N = N.length := by omega
    rw [e]; simp
theorem step_keep {E : List (ByteArray × Int × Int)} {N : List ByteArray} {k : Nat} {s c : ByteArray} (h : N[k]? = some s) (hs : s ≠ noName) : (seatStep E N c).1[k]? = some s := by
  unfold seatStep; split
  · exact h
  · exact place_keep h hs
theorem after_keep {E : List (ByteArray × Int × Int)} : ∀ (C : List (ByteArray × Int)) {N : List ByteArray} {k : Nat} {s : ByteArray}, N[k]? = some s → s ≠ noName → (namesAfter E N C)[k]? = some s
  | [], _, _, _, h, _ => h
  | c :: r, N, k, s, h, hs => by
    have := after_keep (E := E) r (step_keep (E := E) (c := c.1) h hs) hs
    exact this
theorem after_app (E : List (ByteArray × Int × Int)) (N : List ByteArray) (C D : List (ByteArray × Int)) : namesAfter E N (C ++ D) = namesAfter E (namesAfter E N C) D := by
  unfold namesAfter; rw [List.foldl_append]
theorem after_split (E : List (ByteArray × Int × Int)) (N : List ByteArray) (C : List (ByteArray × Int)) (i : Nat) : namesAfter E N C = namesAfter E (namesAfter E N (C.take i)) (C.drop i) := by
  rw [← after_app, List.take_append_drop]
/-- How many of the servers are added. -/
def added (L : List (ByteArray × Int × Int)) (C : List (ByteArray × Int)) : Nat := (C.filter (fun c => (last L c.1).isNone)).length
theorem added_snoc {L : List (ByteArray × Int × Int)} {C : List (ByteArray × Int)} {k : Nat} {c : ByteArray × Int} (hx : C[k]? = some c) : added L (C.take (k + 1)) = added L (C.take k) + if (last L c.1).isNone then 1 else 0 := by
  unfold added
  rw [take_snoc' hx, List.filter_append, List.length_append]
  by_cases h : (last L c.1).isNone <;> simp [h]
theorem added_le (L : List (ByteArray × Int × Int)) (C : List (ByteArray × Int)) (k : Nat) : added L (C.take k) ≤ k := by
  unfold added
  exact Nat.le_trans (List.length_filter_le _ _) (List.length_take_le _ _)
theorem after_bound (L : List (ByteArray × Int × Int)) : ∀ (C : List (ByteArray × Int)) (N : List ByteArray), (namesAfter (roster L) N C).length ≤ N.length + added L C
  | [], N => by simp [namesAfter, added]
  | c :: r, N => by
    have ih := after_bound L r (seatStep (roster L) N c.1).1
    have hs : (seatStep (roster L) N c.1).1.length ≤ N.length + if (last L c.1).isNone then 1 else 0 := by
      unfold seatStep
      rw [look_roster]
      cases h : last L c.1 with
      | some v => simp
      | none => simp only [Option.isNone_none, if_true]; exact (place_len _ _ _).2
    have ha : added L (c :: r) = (if (last L c.1).isNone then 1 else 0) + added L r := by
      unfold added
      by_cases h : (last L c.1).isNone <;> simp [h]; omega
    simp only [namesAfter, List.foldl_cons] at ih ⊢
    omega

section
variable {L : List (ByteArray × Int × Int)} {N : List ByteArray} {C : List (ByteArray × Int)} {i : Nat} {c : ByteArray × Int}
theorem off_step (hn : last L c.1 = none) (M : List ByteArray) : seatStep (roster L) M c.1 = (place M (firstFree M) c.1, (0, (firstFree M : Int))) := by
  unfold seatStep; rw [look_roster, hn]
/-- The number of an added server lies within the names. -/
theorem off_lt (hc : C[i]? = some c) (hn : last L c.1 = none) : firstFree (namesAfter (roster L) N (C.take i)) < (namesAfter (roster L) N C).length := by
  have h1 := after_snoc (E := roster L) (N := N) hc
  rw [off_step hn] at h1
  have h2 := place_at (namesAfter (roster L) N (C.take i)) c.1
  have h3 := (List.getElem?_eq_some_iff.1 h2).1
  have h4 := after_split (roster L) N C (i + 1)
  have h5 := (after_len (roster L) (namesAfter (roster L) N (C.take (i + 1))) (C.drop (i + 1))).1
  rw [← h4] at h5
  rw [h1] at h5
  simp only at h5
  omega
/-- It was free. -/
theorem off_free {s : ByteArray} (hs : N[firstFree (namesAfter (roster L) N (C.take i))]? = some s) : s = noName := by
  by_cases h : s = noName
  · exact h
  · exact free_spec _ (after_keep (C.take i) hs h)
/-- An added server with a name finds it at its number. -/
theorem off_name (hc : C[i]? = some c) (hn : last L c.1 = none) (hne : c.1 ≠ noName) : (namesAfter (roster L) N C)[firstFree (namesAfter (roster L) N (C.take i))]? = some c.1 := by
  have h1 := after_snoc (E := roster L) (N := N) hc
  rw [off_step hn] at h1
  have h2 := place_at (namesAfter (roster L) N (C.take i)) c.1
  have h4 := after_split (roster L) N C (i + 1)
  rw [h4, h1]
  exact after_keep _ h2 hne
/-- No two such share a number. -/
theorem off_apart {j : Nat} {d : ByteArray × Int} (hd : C[j]? = some d) (hj : j < i) (hm : last L d.1 = none) (hdn : d.1 ≠ noName) : firstFree (namesAfter (roster L) N (C.take j)) ≠ firstFree (namesAfter (roster L) N (C.take i)) := by
  intro e
  have hd' : (C.take i)[j]? = some d := by rw [List.getElem?_take, if_pos hj]; exact hd
  have h := off_name (L := L) (N := N) (C := C.take i) (i := j) hd' hm hdn
  rw [List.take_take, Nat.min_eq_left (Nat.le_of_lt hj), e] at h
  exact hdn (free_spec _ h)
end

/-! ### zzNamedLater -/
theorem beq_of_ne {a b : ByteArray} (h : a ≠ b) : (a.toList == b.toList) = false := by rw [tl_beq]; simp [h]

set_option maxHeartbeats 1000000 in
theorem later_any (a : Option Addr) (n c k : Nat) (L : List (ByteArray × Int × Int)) (w : World) (hr : Row w a n 3 (L.flatMap memF)) (hn : n ≤ 65536) (hk : k < n) :
    Calls Trym.prog 36 #[.slice a n c, .int .i64 k] w fun e w' => (e = .returned (.bool true) ∧ ∃ q, w' = w.drewN q) ∨ (e = .returned (.bool false) ∧ (∀ (j : Nat) (x y : ByteArray × Int × Int), k < j → L[j]? = some x → L[k]? = some y → x.1 ≠ y.1) ∧ ∃ q, w' = w.drewN q) := by
  obtain ⟨b, off, s, wt, no, rfl, hb, hx, c1, _, _⟩ := hr.mem hk
  have HR := hide hr
  have HX := hide hx
  clear hr hx
  have b0 : (k : Int) < (n : Int) := by omega
  go_enter Trym.func36, Trym.ntmps36
  go_wp2
  go_loopw [5] (fun i wr => ∃ t : Nat, k < t ∧ t ≤ n ∧ i = .int .i64 t ∧ (∀ (j : Nat) (x : ByteArray × Int × Int), k < j → j < t → L[j]? = some x → x.1 ≠ s) ∧ ∃ q, wr = w.drewN q) (fun i _ => n - (intOf i).toNat)
  case atStart => exact ⟨k + 1, by omega, by omega, by go_num, fun j x h1 h2 => by omega, 0, rfl⟩
  case round =>
    obtain ⟨t, hkt, htn, rfl, hno, q, rfl⟩ := hrel
    have HN := hide hno
    clear hno
    by_cases hlt : t < n
    · obtain ⟨b', off', s', wt', no', e, hb', hx', c1', _, _⟩ := HR.out.mem hlt
      cases e
      have b1 : (t : Int) < (n : Int) := by omega
      by_cases hs : s' = s
      · have hq : (s'.toList == s.toList) = true := by rw [hs]; simp
        clear hs hx'
        go_wp2
        go_quiet (fail)
        go_wp2
        go_ret
        exact .inl ⟨rfl, _, World.drewN_drewN _ _ _⟩
      · have hq := beq_of_ne hs
        have HS := hide hs
        have HX' := hide hx'
        clear hs hx'
        go_wp2
        go_quiet (fail)
        go_wp2
        refine ⟨⟨t + 1, by omega, by omega, by go_num, fun j x h1 h2 h3 => ?_, _, rfl⟩, by simp [intOf]; omega⟩
        by_cases e : j = t
        · subst e
          rw [HX'.out] at h3
          cases h3
          exact HS.out
        · exact HN.out j x h1 (by omega) h3
    · go_wp2
      go_ret
      refine .inr ⟨rfl, fun j x y h1 h2 h3 => ?_, _, rfl⟩
      rw [HX.out] at h3
      cases h3
      have hj := (List.getElem?_eq_some_iff.1 h2).1
      rw [HR.out.llen (fun _ => rfl) (by omega)] at hj
      exact HN.out j x h1 (by omega) h2

theorem seatWx (x y : Int) (w : World) : Calls Trym.prog 33 #[.agg #[.int .i64 x, .int .u32 y]] w fun e w' => e = .returned (.int .i64 x) ∧ w' = w.alloc (.cells #[.int .i64 x, .int .u32 y] 70) := by
  go_enter Trym.func33, Trym.ntmps33
  go_wp2
  go_ret
  exact ⟨rfl, rfl⟩
theorem seatNx (x y : Int) (w : World) : Calls Trym.prog 34 #[.agg #[.int .i64 x, .int .u32 y]] w fun e w' => e = .returned (.int .u32 y) ∧ w' = w.alloc (.cells #[.int .i64 x, .int .u32 y] 70) := by
  go_enter Trym.func34, Trym.ntmps34
  go_wp2
  go_ret
  exact ⟨rfl, rfl⟩
end Go.Proofs.Qxb6601991aMods
