/-
  A roster's map (map[string]seat): what a look-up and a store do; zzRosterMap (29).
-/
import Derived.Test.Qxb6601991aModsSeat1
namespace Go.Proofs.Qxb6601991aMods
open Go.ChangeShapes Go.WideShapes Go.ChangeAt Go.RowKit
set_option linter.unusedVariables false

theorem beq_dec (a b : ByteArray) : (a == b) = decide (a = b) := by
  by_cases h : a = b
  · rw [decide_eq_true h]; exact (Go.MapKept.bytes_beq a b).mpr h
  · rw [decide_eq_false h]; exact Bool.eq_false_iff.2 fun h' => h ((Go.MapKept.bytes_beq a b).mp h')

/-- The entries of a roster: a name, and the seat's two numbers. -/
def entOf (x : ByteArray × Int × Int) : Value × Value := (.string x.1, .agg #[.int .i64 x.2.1, .int .u32 x.2.2])
/-- Block b is a map of the entries E. -/
def MB (w : World) (b : Nat) (E : List (ByteArray × Int × Int)) : Prop :=
  ∃ es clock, w.heap[b]? = some (.map es clock) ∧ es.toList.map (fun e => (e.key, e.val)) = E.map entOf

def look (E : List (ByteArray × Int × Int)) (s : ByteArray) : Option (Int × Int) := match E with
  | [] => none
  | x :: r => if s = x.1 then some x.2 else look r s
def upd (E : List (ByteArray × Int × Int)) (s : ByteArray) (v : Int × Int) : List (ByteArray × Int × Int) := match E with
  | [] => [(s, v)]
  | x :: r => if s = x.1 then (s, v) :: r else x :: upd r s v

theorem findNow_spec (s : ByteArray) : ∀ (es : List MapEntry) (E : List (ByteArray × Int × Int)) (i : Nat), es.map (fun e => (e.key, e.val)) = E.map entOf →
    (look E s = none ∧ Instr.findNow .string (.string s) es i = some none ∧ ∀ v', upd E s v' = E ++ [(s, v')]) ∨ ∃ j v, look E s = some v ∧ j < es.length ∧ Instr.findNow .string (.string s) es i = some (some (i + j, .agg #[.int .i64 v.1, .int .u32 v.2])) ∧
      (∀ v', upd E s v' = E.set j (s, v')) ∧ (es[j]?).map (·.key) = some (.string s)
  | [], [], i, _ => .inl ⟨rfl, rfl, fun _ => rfl⟩
  | [], _ :: _, _, h => by simp at h
  | _ :: _, [], _, h => by simp at h
  | e :: es, x :: E, i, h => by
    simp only [List.map_cons, List.cons.injEq, entOf, Prod.mk.injEq] at h
    obtain ⟨⟨hk, hv⟩, hr⟩ := h
    by_cases hs : s = x.1
    · right
      refine ⟨0, x.2, by simp [look, hs], by simp, ?_, ?_, ?_⟩
      · simp [Instr.findNow, hk, hv, Instr.sameNow, beq_dec, hs]
      · intro v'; simp [upd, hs]
      · simp [hk, hs]
    · have ih := findNow_spec s es E (i + 1) hr
      rcases ih with ⟨h1, h2, h3⟩ | ⟨j, v, h1, h2, h3, h4, h5⟩
      · left
        refine ⟨by simp [look, hs, h1], ?_, fun v' => by simp [upd, hs, h3]⟩
        simp [Instr.findNow, hk, Instr.sameNow, beq_dec, hs, h2]
      · right
        refine ⟨j + 1, v, by simp [look, hs, h1], by simp; omega, ?_, ?_, ?_⟩
        · simp [Instr.findNow, hk, Instr.sameNow, beq_dec, hs, h3]; omega
        · intro v'; simp [upd, hs, h4]
        · simpa using h5

theorem check9 (e : Bool) (s : ByteArray) (w : World) : (Instr.checkKey e 10000 9 (.string s)).run Trym.prog w = .ok () w := by
  show (Instr.checkKey e (9999 + 1) 9 (.string s)).run Trym.prog w = _
  rw [Instr.checkKey]
  simp [run_underlying Trym.underlying9]

def seatAt (o : Option (Int × Int)) : Int × Int := o.getD (0, 0)
theorem run_look {w : World} {b : Nat} {E : List (ByteArray × Int × Int)} (h : MB w b E) (s : ByteArray) :
    (Instr.lookup 55 (.map (some b)) (.string s) true).run Trym.prog w = .ok (.tuple #[.agg #[.int .i64 (seatAt (look E s)).1, .int .u32 (seatAt (look E s)).2], .bool (look E s).isSome]) w := by
  obtain ⟨es, clock, hb, he⟩ := h
  have hg : (getObj b).run Trym.prog w = .ok (.map es clock) w := by
    simp [getObj, Sem.run, hb]
  rcases findNow_spec s es.toList E 0 he with ⟨h1, h2, _⟩ | ⟨j, v, h1, h2, h3, _⟩
  · simp [Instr.lookup, run_underlying Trym.underlying55, hg, check9, Instr.findKey, run_underlying Trym.underlying9, h2, h1, seatAt]
  · simp [Instr.lookup, run_underlying Trym.underlying55, hg, check9, Instr.findKey, run_underlying Trym.underlying9, h3, h1, seatAt]

theorem run_keep (s : ByteArray) (w : World) : (Instr.keyThatStays (.string s) (.string s)).run Trym.prog w = .ok (.string s) w := by
  have : Instr.sameBits 10000 (.string s) (.string s) = true := by
    show Instr.sameBits (9999 + 1) (.string s) (.string s) = true
    simp [Instr.sameBits, beq_dec]
  simp [Instr.keyThatStays, this]

theorem run_upd {w : World} {b : Nat} {E : List (ByteArray × Int × Int)} (h : MB w b E) (s : ByteArray) (v : Int × Int) :
    ∃ w', (Instr.mapUpdate 55 (.map (some b)) (.string s) (.agg #[.int .i64 v.1, .int .u32 v.2])).run Trym.prog w = .ok () w' ∧ MB w' b (upd E s v) ∧ w.grownBy w' (some b) := by
  obtain ⟨es, clock, hb, he⟩ := h
  have hlt : b < w.heap.size := (Array.getElem?_eq_some_iff.1 hb).1
  have hgr : ∀ o, w.grownBy { w with heap := w.heap.setIfInBounds b o } (some b) := fun o =>
    ⟨rfl, rfl, rfl, by simp, fun k hk hne => by
      have : b ≠ k := fun e => hne (by rw [e])
      simp [Array.getElem?_setIfInBounds_ne this]⟩
  have hget : ∀ o, ({ w with heap := w.heap.setIfInBounds b o } : World).heap[b]? = some o := fun o => by simp [hlt]
  have hg := MapKept.run_getObj_map (P := Trym.prog) hb
  have hs := fun o => MapKept.run_setObj_map (P := Trym.prog) o hb
  rcases findNow_spec s es.toList E 0 he with ⟨h1, h2, h3⟩ | ⟨j, v0, h1, h2, h3, h4, h5⟩
  · refine ⟨{ w with heap := w.heap.setIfInBounds b (.map (es.push { key := .string s, val := .agg #[.int .i64 v.1, .int .u32 v.2], born := clock }) (clock + 1)) }, ?_, ⟨_, _, hget _, ?_⟩, hgr _⟩
    · simp [Instr.mapUpdate, run_underlying Trym.underlying55, hg, check9, Instr.findKey, run_underlying Trym.underlying9, h2, hs]
    · simp [h3, entOf, he]
  · have h5' : ((es[j]?).map (·.key)) = some (.string s) := by simpa using h5
    refine ⟨{ w with heap := w.heap.setIfInBounds b (.map (es.modify j fun e => { e with key := .string s, val := .agg #[.int .i64 v.1, .int .u32 v.2] }) clock) }, ?_, ⟨_, _, hget _, ?_⟩, hgr _⟩
    · simp [Instr.mapUpdate, run_underlying Trym.underlying55, hg, check9, Instr.findKey, run_underlying Trym.underlying9, h3, h5', run_keep, hs]
    · rw [h4]
      apply List.ext_getElem?
      intro i
      have hi := congrArg (fun l => l[i]?) he
      simp only [List.getElem?_map] at hi
      rw [List.getElem?_map, List.getElem?_map, Array.getElem?_toList, Array.getElem?_modify, List.getElem?_set]
      by_cases hij : j = i
      · subst hij
        have hjl : j < es.size := by simpa using h2
        have hEl : j < E.length := by have := congrArg List.length he; simp at this; omega
        simp [hjl, hEl, entOf]
      · simp [hij]
        simpa using hi

theorem MB.lt {w : World} {b : Nat} {E : List (ByteArray × Int × Int)} (h : MB w b E) : b < w.heap.size := by
  obtain ⟨es, clock, hb, _⟩ := h
  exact (Array.getElem?_eq_some_iff.1 hb).1
theorem MB.alloc {w : World} {b : Nat} {E : List (ByteArray × Int × Int)} (h : MB w b E) (o : Obj) : MB (w.alloc o) b E := by
  have hlt := h.lt
  obtain ⟨es, clock, hb, he⟩ := h
  exact ⟨es, clock, (Below.heap_alloc w o b hlt).trans hb, he⟩
theorem MB.drew {w : World} {b : Nat} {E : List (ByteArray × Int × Int)} (h : MB w b E) : MB w.drew b E := h
theorem MB.draws {w : World} {b : Nat} {E : List (ByteArray × Int × Int)} (h : MB w b E) (q : Nat) : MB (w.drewN q) b E := h
theorem MB.other {w : World} {b : Nat} {E : List (ByteArray × Int × Int)} (h : MB w b E) {a : Addr} (hne : b ≠ a.block) (u : Value) : MB (w.setCell a u) b E := by
  obtain ⟨es, clock, hb, he⟩ := h
  exact ⟨es, clock, (Below.heap_setCell w a u b hne).trans hb, he⟩
theorem MB.below {w w' : World} {b : Nat} {E : List (ByteArray × Int × Int)} (h : MB w b E) {B : Nat} (hB : b < B) (hb' : Below B w w') : MB w' b E := by
  obtain ⟨es, clock, hb, he⟩ := h
  exact ⟨es, clock, (hb'.block b hB).trans hb, he⟩
theorem MB.grown {w w' : World} {b : Nat} {E : List (ByteArray × Int × Int)} (h : MB w b E) {r : Option Nat} (hr : some b ≠ r) (hg : w.grownBy w' r) : MB w' b E := by
  have hlt := h.lt
  obtain ⟨es, clock, hb, he⟩ := h
  exact ⟨es, clock, (hg.block b hlt hr).trans hb, he⟩
theorem MB.new (w : World) : MB (w.alloc (.map #[] 0)) w.heap.size [] := ⟨#[], 0, heap_alloc_new w _, rfl⟩
theorem MB.len {w : World} {b : Nat} {E : List (ByteArray × Int × Int)} (h : MB w b E) (ty : TypeId) : (Builtin.len_ #[55] ty #[.map (some b)]).run Trym.prog w = .ok (.int .i64 E.length) w := by
  obtain ⟨es, clock, hb, he⟩ := h
  have hg := MapKept.run_getObj_map (P := Trym.prog) hb
  have hl : es.size = E.length := by have := congrArg List.length he; simpa using this
  simp [Builtin.len_, run_underlying Trym.underlying55, hg, goInt, hl]

theorem look_upd (E : List (ByteArray × Int × Int)) (s : ByteArray) (v : Int × Int) (t : ByteArray) : look (upd E s v) t = if t = s then some v else look E t := by
  induction E with
  | nil => simp [upd, look]
  | cons x r ih =>
    unfold upd
    split
    · rename_i h
      subst h
      simp only [look]
      split <;> rfl
    · rename_i h
      simp only [look, ih]
      by_cases h1 : t = x.1
      · have h2 : ¬ x.1 = s := fun e => h e.symm
        simp [h1, h2]
      · simp [h1]

/-- The roster that a list of members makes; the last member of a name. -/
def roster (M : List (ByteArray × Int × Int)) : List (ByteArray × Int × Int) := M.foldl (fun E m => upd E m.1 m.2) []
def last (M : List (ByteArray × Int × Int)) (t : ByteArray) : Option (Int × Int) := M.foldl (fun o m => if t = m.1 then some m.2 else o) none
theorem look_fold (t : ByteArray) : ∀ (M E : List (ByteArray × Int × Int)), look (M.foldl (fun E m => upd E m.1 m.2) E) t = M.foldl (fun o m => if t = m.1 then some m.2 else o) (look E t)
  | [], E => rfl
  | m :: M, E => by
    simp only [List.foldl_cons]
    rw [look_fold t M, look_upd]
theorem look_roster (M : List (ByteArray × Int × Int)) (t : ByteArray) : look (roster M) t = last M t := look_fold t M []
theorem roster_snoc (M : List (ByteArray × Int × Int)) (m : ByteArray × Int × Int) : roster (M ++ [m]) = upd (roster M) m.1 m.2 := by simp [roster]

theorem mkSeat (p s : Int) (w : World) : Calls Trym.prog 52 #[.int .i64 p, .int .u32 s] w fun e w' => e = .returned (.agg #[.int .i64 p, .int .u32 s]) ∧ w' = w.alloc (.cells #[.int .i64 p, .int .u32 s] 70) := by
  go_enter Trym.func52, Trym.ntmps52
  go_wp2
  go_returns
  exact ⟨rfl, rfl⟩

theorem take_snoc' {α : Type} {L : List α} {k : Nat} {x : α} (hx : L[k]? = some x) : L.take (k + 1) = L.take k ++ [x] := by
  have hk := (List.getElem?_eq_some_iff.1 hx).1
  rw [List.take_succ_eq_append_getElem hk]
  rw [List.getElem?_eq_getElem hk] at hx
  simp at hx
  rw [hx]

set_option maxRecDepth 100000 in
set_option maxHeartbeats 4000000 in
theorem rosterMap (a : Option Addr) (n c : Nat) (L : List (ByteArray × Int × Int)) (w : World) (hr : Row w a n 3 (L.flatMap memF)) (hn : n ≤ 65536) :
    Calls Trym.prog 29 #[.slice a n c] w fun e w' => ∃ b, e = .returned (.map (some b)) ∧ w.heap.size ≤ b ∧ MB w' b (roster L) ∧ Below w.heap.size w w' := by
  have hmm := @run_makeMap Trym.prog
  have HR := hide hr
  clear hr
  go_enter Trym.func29, Trym.ntmps29
  go_wp2
  go_loopw [4] (fun i wr => ∃ k : Nat, k ≤ n ∧ i = .int .i64 k ∧ MB wr w.heap.size (roster (L.take k)) ∧ Below w.heap.size w wr) (fun i _ => n - (intOf i).toNat)
  case atStart => exact ⟨0, Nat.zero_le _, rfl, MB.new w, (Below.refl _ _).alloc (Nat.le_refl _) _⟩
  case round =>
    obtain ⟨k, hk, rfl, hmb, hbel⟩ := hrel
    by_cases hlt : k < n
    · obtain ⟨b, off, s, wt, no, rfl, hb, hx, c1, c2, c3⟩ := (HR.out.below hbel).mem hlt
      have b1 : (k : Int) < (n : Int) := by omega
      obtain ⟨w2, hrun, hmb2, hgr⟩ := run_upd ((hmb.alloc (Obj.cells #[Value.int IntKind.i64 wt, Value.int IntKind.u32 no] 70)).drew) s (wt, no)
      have HX := hide (show roster (L.take (k + 1)) = upd (roster (L.take k)) s (wt, no) by rw [take_snoc' hx, roster_snoc])
      have hz : w.heap.size < wr.heap.size := hmb.lt
      have HB2 := hide (((hbel.alloc hbel.size (Obj.cells #[Value.int IntKind.i64 wt, Value.int IntKind.u32 no] 70)).drew).grown hgr (by simp; omega) (fun k hk => by cases hk; exact Nat.le_refl _))
      have HM2 := hide hmb2
      clear hmb hbel hx hmb2 hgr
      simp only at hrun
      go_wp2
      go_region_with (go_at_call 52; refine (mkSeat _ _ _).mono ?_; rintro e w' ⟨rfl, rfl⟩)
      all_goals
        go_wp2
        go_roundw
        case rel => exact ⟨k + 1, by omega, by go_num, by rw [HX.out]; exact HM2.out, HB2.out⟩
        case measure => simp [intOf]; omega
    · have e : k = n := by omega
      subst e
      rw [List.take_of_length_le (by rw [HR.out.llen (fun _ => rfl) (by omega)]; exact Nat.le_refl _)] at hmb
      go_wp2
      go_ret
      exact ⟨_, rfl, Nat.le_refl _, hmb, hbel⟩
end Go.Proofs.Qxb6601991aMods
