/-
  (*roster).seats (53), ZZSeats (30).
-/
import Derived.Test.Qxb6601991aModsSeat4
namespace Go.Proofs.Qxb6601991aMods
open Go.ChangeShapes Go.WideShapes Go.ChangeAt Go.RowKit
set_option linter.unusedVariables false

/-- A row of names and a block of another make are two. -/
theorem own_ne_ob {w : World} {base n g t : Nat} {v : Value} {xs cs : List Value} (h : w.ownsRow base 9 1 v n xs) (ho : OB w g t cs) (ht : t ≠ 9) : some g ≠ v.ownBlock := by
  rcases h.2 with ⟨rfl, rfl⟩ | ⟨g', cap, cur, rfl, _, hg, _⟩
  · simp [Value.ownBlock]
  · intro e
    simp only [Value.ownBlock, Option.some.injEq] at e
    subst e
    unfold OB at ho
    rw [ho] at hg
    simp at hg
    exact ht hg.2
theorem own_ne_mb {w : World} {base n g : Nat} {v : Value} {xs : List Value} {E : List (ByteArray × Int × Int)} (h : w.ownsRow base 9 1 v n xs) (ho : MB w g E) : some g ≠ v.ownBlock := by
  rcases h.2 with ⟨rfl, rfl⟩ | ⟨g', cap, cur, rfl, _, hg, _⟩
  · simp [Value.ownBlock]
  · intro e
    simp only [Value.ownBlock, Option.some.injEq] at e
    subst e
    obtain ⟨es, clock, hb, _⟩ := ho
    rw [hb] at hg
    simp at hg

theorem own_kept {w w' : World} {base e sz n : Nat} {v : Value} {xs : List Value} (h : w.ownsRow base e sz v n xs) (hb : Below w.heap.size w w') : w'.ownsRow base e sz v n xs := by
  refine ⟨h.1, ?_⟩
  rcases h.2 with ⟨rfl, rfl⟩ | ⟨g, cap, cur, rfl, hbg, hg, r⟩
  · exact .inl ⟨rfl, rfl⟩
  · exact .inr ⟨g, cap, cur, rfl, hbg, (hb.block g (Array.getElem?_eq_some_iff.1 hg).1).trans hg, r⟩
theorem own_shape9 {w : World} {base n : Nat} {v : Value} {L : List ByteArray} (h : w.ownsRow base 9 1 v n (L.flatMap strF)) : ∃ a c, v = .slice a n c ∧ Row w a n 1 (L.flatMap strF) ∧ (0 < n → ∃ g, a = some ⟨g, 0, none⟩) := by
  have hl := h.1
  rcases h.2 with ⟨rfl, rfl⟩ | ⟨g, cap, cur, rfl, hb, _⟩
  · exact ⟨none, 0, rfl, ⟨hl, fun h => absurd h (by omega)⟩, fun h => absurd h (by omega)⟩
  · exact ⟨some ⟨g, 0, none⟩, cap, rfl, ⟨hl, fun _ => ⟨g, 0, rfl, (h.lt g rfl).2, fun j hj => by rw [Nat.zero_add]; exact h.cellAt j hj⟩⟩, fun _ => ⟨g, rfl⟩⟩

/-- What stands at every round's head. -/
structure SeatInv (w : World) (E : List (ByteArray × Int × Int)) (N0 : List ByteArray) (C : List (ByteArray × Int)) (gs gr gc bm m : Nat) (k fr : Nat) (v : Value) (wr : World) : Prop where
  own : wr.ownsRow w.heap.size 9 1 v (namesAfter E N0 (C.take k)).length ((namesAfter E N0 (C.take k)).flatMap strF)
  free : fr ≤ (namesAfter E N0 (C.take k)).length
  full : ∀ j s, j < fr → (namesAfter E N0 (C.take k))[j]? = some s → s ≠ noName
  seats : ∃ S : List (Int × Int), S.length = m ∧ OB wr gs 70 (S.flatMap seatF) ∧ ∀ j c, j < k → C[j]? = some c → S[j]? = some (seatStep E (namesAfter E N0 (C.take j)) c.1).2
  srvs : OB wr gc 94 (C.flatMap srvF)
  ros : OB wr gr 91 [.map (some bm), .map none, .int .i64 0]
  map : MB wr bm E
  bel : Below w.heap.size w wr

theorem ob_ne {w : World} {g g' t t' : Nat} {cs cs' : List Value} (h : OB w g t cs) (h' : OB w g' t' cs') (ht : t ≠ t') : g ≠ g' := by
  intro e
  subst e
  unfold OB at h h'
  rw [h] at h'
  simp at h'
  exact ht h'.2
theorem ob_ne_mb {w : World} {g b t : Nat} {cs : List Value} {E : List (ByteArray × Int × Int)} (h : OB w g t cs) (h' : MB w b E) : b ≠ g := by
  intro e
  subst e
  obtain ⟨es, clock, hb, _⟩ := h'
  unfold OB at h
  rw [h] at hb
  simp at hb
theorem grown_set {w0 w : World} {g : Nat} (h : w0.grownBy w (some g)) (j : Nat) (u : Value) : w0.grownBy (w.setCell ⟨g, j, none⟩ u) (some g) :=
  ⟨h.os, h.tape, h.output, by simpa using h.size, fun k hk hne => (Below.heap_setCell w ⟨g, j, none⟩ u k (fun e => hne (by rw [e]))).trans (h.block k hk hne)⟩
theorem grown_all {w0 w : World} {r : Option Nat} (h : w0.grownBy w r) (o : Obj) : w0.grownBy (w.alloc o) r :=
  ⟨h.os, h.tape, h.output, by have := h.size; simp; omega, fun k hk hne => (Below.heap_alloc w o k (Nat.lt_of_lt_of_le hk h.size)).trans (h.block k hk hne)⟩
theorem grown_drew {w0 w : World} {r : Option Nat} (h : w0.grownBy w r) : w0.grownBy w.drew r := ⟨h.os, h.tape, h.output, h.size, h.block⟩
theorem own_ne_of {w : World} {base n g t : Nat} {v : Value} {xs cs : List Value} (h : w.ownsRow base 9 1 v n xs) (ho : OB w g t cs) (ht : t ≠ 9) : v.ownBlock = none ∨ v.ownBlock ≠ some g := .inr (fun e => own_ne_ob h ho ht e.symm)

/-- What is common to both kinds of a round's end: the seat is written. -/
theorem inv_seat {w wr X : World} {E : List (ByteArray × Int × Int)} {N0 : List ByteArray} {C : List (ByteArray × Int)} {gs gr gc bm m k fr' : Nat} {v : Value} {S : List (Int × Int)} {s : ByteArray} {wt : Int} {x : Int × Int}
    (own : wr.ownsRow w.heap.size 9 1 v (namesAfter E N0 (C.take (k + 1))).length ((namesAfter E N0 (C.take (k + 1))).flatMap strF)) (free : fr' ≤ (namesAfter E N0 (C.take (k + 1))).length)
    (full : ∀ j s, j < fr' → (namesAfter E N0 (C.take (k + 1)))[j]? = some s → s ≠ noName)
    (hS : S.length = m) (hoS : OB wr gs 70 (S.flatMap seatF)) (hseats : ∀ j c, j < k → C[j]? = some c → S[j]? = some (seatStep E (namesAfter E N0 (C.take j)) c.1).2) (hk : k < m)
    (srvs : OB wr gc 94 (C.flatMap srvF)) (ros : OB wr gr 91 [.map (some bm), .map none, .int .i64 0]) (map : MB wr bm E) (bel : Below w.heap.size w wr) (hgs : w.heap.size ≤ gs)
    (hp : C[k]? = some (s, wt)) (hx : (seatStep E (namesAfter E N0 (C.take k)) s).2 = x)
    (hg : wr.grownBy X (some gs)) (hoX : OB X gs 70 ((S.set k x).flatMap seatF)) : SeatInv w E N0 C gs gr gc bm m (k + 1) fr' v X := by
  refine ⟨own.kept hg (own_ne_of own hoS (by decide)), free, full, ⟨S.set k x, by rw [List.length_set]; exact hS, hoX, fun j c hj hc => ?_⟩, srvs.grown (fun e => ob_ne srvs hoS (by decide) (by simpa using e)) hg, ros.grown (fun e => ob_ne ros hoS (by decide) (by simpa using e)) hg, map.grown (fun e => ob_ne_mb hoS map (by simpa using e)) hg, bel.grown hg bel.size (fun k hk => by cases hk; exact hgs)⟩
  by_cases e : j = k
  · subst e
    rw [hp] at hc
    cases hc
    simp only
    rw [hx]
    simp [hS, hk]
  · rw [List.getElem?_set_ne (by omega)]
    exact hseats j c (by omega) hc

theorem step_off {E : List (ByteArray × Int × Int)} {N : List ByteArray} {s : ByteArray} {f : Nat} (hlk : look E s = none) (hf : firstFree N = f) : seatStep E N s = (place N f s, (0, (f : Int))) := by
  unfold seatStep; rw [hlk, hf]
theorem cells_new3 (w : World) (o1 o2 : Obj) (t : TypeId) (l : List Value) : ∀ (j : Nat) (u : Value), l[j]? = some u → (((w.alloc o1).alloc o2).alloc (.cells l.toArray t)).drew.cell? ((⟨w.heap.size + 1 + 1, 0, none⟩ : Addr).add j) = some u := by
  have := cells_new ((w.alloc o1).alloc o2) t l
  rw [World.size_alloc, World.size_alloc] at this
  exact this
theorem one_str (s : ByteArray) : ∀ u ∈ [Value.string s], u.oneCell' = true := by
  intro u hu; simp at hu; subst hu; rfl

/-- The round's end where the name takes a place within the names. -/
theorem inv_in {w wr : World} {E : List (ByteArray × Int × Int)} {N0 Nk : List ByteArray} {C : List (ByteArray × Int)} {gs gr gc bm m k fr f b cv : Nat} {S : List (Int × Int)} {s : ByteArray} {wt : Int} {o1 o2 : Obj}
    (V : SeatInv w E N0 C gs gr gc bm m k fr (.slice (some ⟨b, 0, none⟩) Nk.length cv) wr) (hNk : namesAfter E N0 (C.take k) = Nk)
    (hS : S.length = m) (hoS : OB wr gs 70 (S.flatMap seatF)) (hseats : ∀ j c, j < k → C[j]? = some c → S[j]? = some (seatStep E (namesAfter E N0 (C.take j)) c.1).2) (hk : k < m) (hgs : w.heap.size ≤ gs)
    (hp : C[k]? = some (s, wt)) (hlk : look E s = none) (hf : f < Nk.length) (hful : ∀ (j : Nat) (x : ByteArray), j < f → Nk[j]? = some x → x ≠ noName) (hnm : ∀ x, Nk[f]? = some x → x = noName) :
    SeatInv w E N0 C gs gr gc bm m (k + 1) f (.slice (some ⟨b, 0, none⟩) Nk.length cv)
      (((((wr.setCell ⟨b, f, none⟩ (.string s)).setCell ⟨gs, k * 2, none⟩ (.int .i64 0)).setCell ⟨gs, k * 2 + 1, none⟩ (.int .u32 (f : Int))).alloc o1).alloc o2).drew := by
  have hff := firstFree_eq (by omega) hful hnm
  have hst := step_off hlk hff
  have hpl : place Nk f s = Nk.set f s := by unfold place; rw [if_pos hf]
  have hna : namesAfter E N0 (C.take (k + 1)) = Nk.set f s := by rw [after_snoc hp, hNk, hst, hpl]
  have own := V.own
  rw [hNk] at own
  obtain ⟨own', hg'⟩ := own.stored f (.string s)
  rw [← str_set] at own'
  have n1 : gs ≠ b := fun e => own_ne_ob own hoS (by decide) (by simp [Value.ownBlock, e])
  have n2 : gc ≠ b := fun e => own_ne_ob own V.srvs (by decide) (by simp [Value.ownBlock, e])
  have n3 : gr ≠ b := fun e => own_ne_ob own V.ros (by decide) (by simp [Value.ownBlock, e])
  have n4 : bm ≠ b := fun e => own_ne_mb own V.map (by simp [Value.ownBlock, e])
  have hbw := (own.lt b rfl).1
  have hoS' := hoS.grown (by simpa using n1) hg'
  refine inv_seat (wr := wr.setCell ⟨b, f, none⟩ (.string s)) (S := S) (x := (0, (f : Int))) ?_ ?_ ?_ hS hoS' hseats hk (V.srvs.grown (by simpa using n2) hg') (V.ros.grown (by simpa using n3) hg') (V.map.grown (by simpa using n4) hg')
    (V.bel.grown hg' V.bel.size (fun k hk => by cases hk; exact hbw)) hgs hp (by rw [hNk, hst]) (by repeat (first | exact World.grownBy.refl _ _ | apply grown_drew | apply grown_all | apply grown_set)) ?_
  · rw [hna, List.length_set]; exact own'
  · rw [hna, List.length_set]; omega
  · rw [hna]
    intro j x hj hx
    rw [List.getElem?_set_ne (by omega)] at hx
    exact hful j x hj hx
  · rw [seat_set S k 0 f (by omega)]
    exact ((((hoS'.set (k * 2) _).set (k * 2 + 1) _).alloc _).alloc _).drew

/-- What the walk wants of the world behind the append. -/
structure Appended (w wr w3 : World) (E : List (ByteArray × Int × Int)) (N0 Nk : List ByteArray) (C : List (ByteArray × Int)) (S : List (Int × Int)) (gs gr gc bm g' c' : Nat) (s : ByteArray) (wt : Int) : Prop where
  own : w3.ownsRow w.heap.size 9 1 (.slice (some ⟨g', 0, none⟩) (Nk.length + 1) c') (Nk.length + 1) ((Nk ++ [noName]).flatMap strF)
  srv : OB w3 wr.heap.size 94 [.string s, .int .i64 wt]
  seat : OB w3 (wr.heap.size + 1) 70 [.int .i64 0, .int .u32 0]
  seats : OB w3 gs 70 (S.flatMap seatF)
  srvs : OB w3 gc 94 (C.flatMap srvF)
  ros : OB w3 gr 91 [.map (some bm), .map none, .int .i64 0]
  map : MB w3 bm E
  bel : Below w.heap.size w w3

theorem appended {w wr w3 : World} {E : List (ByteArray × Int × Int)} {N0 Nk : List ByteArray} {C : List (ByteArray × Int)} {gs gr gc bm m k fr cv : Nat} {S : List (Int × Int)} {s : ByteArray} {wt : Int} {av : Option Addr} {o : Obj} {v' : Value}
    (V : SeatInv w E N0 C gs gr gc bm m k fr (.slice av Nk.length cv) wr) (hNk : namesAfter E N0 (C.take k) = Nk) (hoS : OB wr gs 70 (S.flatMap seatF))
    (h1 : w3.ownsRow w.heap.size 9 1 v' (Nk.length + 1) (Nk.flatMap strF ++ [.string ⟨#[]⟩]))
    (h2 : ((((wr.alloc (.cells #[.string s, .int .i64 wt] 94)).alloc (.cells #[.int .i64 0, .int .u32 0] 70)).alloc o).drew).grownBy w3 (Value.slice av Nk.length cv).ownBlock) :
    ∃ g' c', v' = .slice (some ⟨g', 0, none⟩) (Nk.length + 1) c' ∧ Appended w wr w3 E N0 Nk C S gs gr gc bm g' c' s wt := by
  have own := V.own
  rw [hNk] at own
  have e9 : Nk.flatMap strF ++ [Value.string ⟨#[]⟩] = (Nk ++ [noName]).flatMap strF := by rw [List.flatMap_append]; rfl
  rw [e9] at h1
  obtain ⟨a, c', rfl, _, hg⟩ := own_shape9 h1
  obtain ⟨g', rfl⟩ := hg (by omega)
  have hlt : ∀ x, (Value.slice av Nk.length cv).ownBlock = some x → x < wr.heap.size := fun x hx => (own.lt x hx).2
  have hA : OB ((((wr.alloc (.cells #[.string s, .int .i64 wt] 94)).alloc (.cells #[.int .i64 0, .int .u32 0] 70)).alloc o).drew) wr.heap.size 94 [.string s, .int .i64 wt] := (((OB.new wr 94 [.string s, .int .i64 wt]).alloc _).alloc _).drew
  have hZ : OB ((((wr.alloc (.cells #[.string s, .int .i64 wt] 94)).alloc (.cells #[.int .i64 0, .int .u32 0] 70)).alloc o).drew) (wr.heap.size + 1) 70 [.int .i64 0, .int .u32 0] := by
    have := OB.new (wr.alloc (.cells #[.string s, .int .i64 wt] 94)) 70 [.int .i64 0, .int .u32 0]
    rw [World.size_alloc] at this
    exact (this.alloc _).drew
  have hg' : wr.grownBy ((((wr.alloc (.cells #[.string s, .int .i64 wt] 94)).alloc (.cells #[.int .i64 0, .int .u32 0] 70)).alloc o).drew) none := grown_drew (grown_all (grown_all (grown_all (World.grownBy.refl _ _) _) _) _)
  refine ⟨g', c', rfl, h1, hA.grown (fun e => by have := hlt _ e.symm; omega) h2, hZ.grown (fun e => by have := hlt _ e.symm; omega) h2, (hoS.grown (by simp) hg').grown (own_ne_ob own hoS (by decide)) h2, (V.srvs.grown (by simp) hg').grown (own_ne_ob own V.srvs (by decide)) h2,
    (V.ros.grown (by simp) hg').grown (own_ne_ob own V.ros (by decide)) h2, (V.map.grown (by simp) hg').grown (own_ne_mb own V.map) h2, ?_⟩
  exact (V.bel.grown hg' V.bel.size (fun k hk => by cases hk)).grown h2 (by have := V.bel.size; simp; omega) (fun k hk => (own.lt k hk).1)

/-- The round's end where the names grow. -/
theorem inv_app {w wr w3 : World} {E : List (ByteArray × Int × Int)} {N0 Nk : List ByteArray} {C : List (ByteArray × Int)} {gs gr gc bm m k g' c' : Nat} {S : List (Int × Int)} {s : ByteArray} {wt : Int}
    (A : Appended w wr w3 E N0 Nk C S gs gr gc bm g' c' s wt) (hNk : namesAfter E N0 (C.take k) = Nk)
    (hS : S.length = m) (hseats : ∀ j c, j < k → C[j]? = some c → S[j]? = some (seatStep E (namesAfter E N0 (C.take j)) c.1).2) (hk : k < m) (hgs : w.heap.size ≤ gs) (hwr : w.heap.size ≤ wr.heap.size) (hgl : gs < wr.heap.size)
    (hp : C[k]? = some (s, wt)) (hlk : look E s = none) (hful : ∀ (j : Nat) (x : ByteArray), j < Nk.length → Nk[j]? = some x → x ≠ noName) :
    SeatInv w E N0 C gs gr gc bm m (k + 1) Nk.length (.slice (some ⟨g', 0, none⟩) (Nk.length + 1) c')
      ((((w3.setCell ⟨wr.heap.size + 1, 1, none⟩ (.int .u32 (Nk.length : Int))).setCell ⟨g', Nk.length, none⟩ (.string s)).setCell ⟨gs, k * 2, none⟩ (.int .i64 0)).setCell ⟨gs, k * 2 + 1, none⟩ (.int .u32 (Nk.length : Int))) := by
  have hff : firstFree Nk = Nk.length := firstFree_eq (Nat.le_refl _) hful (fun x hx => by rw [List.getElem?_eq_none (Nat.le_refl _)] at hx; cases hx)
  have hst := step_off hlk hff
  have hpl : place Nk Nk.length s = Nk ++ [s] := by unfold place; rw [if_neg (by omega)]
  have hna : namesAfter E N0 (C.take (k + 1)) = Nk ++ [s] := by rw [after_snoc hp, hNk, hst, hpl]
  have g1 : w3.grownBy (w3.setCell ⟨wr.heap.size + 1, 1, none⟩ (.int .u32 (Nk.length : Int))) (some (wr.heap.size + 1)) := grown_set (World.grownBy.refl _ _) _ _
  have z1 : gs ≠ wr.heap.size + 1 := by omega
  have own1 := A.own.kept g1 (own_ne_of A.own A.seat (by decide))
  have s1 := A.seats.grown (by simpa using z1) g1
  have c1 := A.srvs.grown (fun e => ob_ne A.srvs A.seat (by decide) (by simpa using e)) g1
  have r1 := A.ros.grown (fun e => ob_ne A.ros A.seat (by decide) (by simpa using e)) g1
  have m1 := A.map.grown (fun e => ob_ne_mb A.seat A.map (by simpa using e)) g1
  have b1 := A.bel.grown g1 A.bel.size (fun k hk => by cases hk; omega)
  obtain ⟨own2, g2⟩ := own1.stored Nk.length (.string s)
  have hle : (Nk ++ [noName]).set Nk.length s = Nk ++ [s] := by rw [List.set_append_right _ _ (Nat.le_refl _)]; simp
  rw [← str_set, hle] at own2
  have n1 : gs ≠ g' := fun e => own_ne_ob own1 s1 (by decide) (by simp [Value.ownBlock, e])
  have n2 : gc ≠ g' := fun e => own_ne_ob own1 c1 (by decide) (by simp [Value.ownBlock, e])
  have n3 : gr ≠ g' := fun e => own_ne_ob own1 r1 (by decide) (by simp [Value.ownBlock, e])
  have n4 : bm ≠ g' := fun e => own_ne_mb own1 m1 (by simp [Value.ownBlock, e])
  have hbw := (own1.lt g' rfl).1
  have s2 := s1.grown (by simpa using n1) g2
  refine inv_seat (S := S) (x := (0, (Nk.length : Int))) ?_ ?_ ?_ hS s2 hseats hk (c1.grown (by simpa using n2) g2) (r1.grown (by simpa using n3) g2) (m1.grown (by simpa using n4) g2)
    (b1.grown g2 b1.size (fun k hk => by cases hk; exact hbw)) hgs hp (by rw [hNk, hst]) (by repeat (first | exact World.grownBy.refl _ _ | apply grown_drew | apply grown_all | apply grown_set)) ?_
  · rw [hna, List.length_append]; exact own2
  · rw [hna, List.length_append]; omega
  · rw [hna]
    intro j x hj hx
    rw [List.getElem?_append_left hj] at hx
    exact hful j x hj hx
  · rw [seat_set S k 0 _ (by omega)]
    exact (s2.set (k * 2) _).set (k * 2 + 1) _

set_option maxRecDepth 100000 in
set_option maxHeartbeats 8000000 in
theorem seats_any (a : Option Addr) (n c gr gc bm m c2 : Nat) (E : List (ByteArray × Int × Int)) (N : List ByteArray) (C : List (ByteArray × Int)) (w : World) (hr : Row w a n 1 (N.flatMap strF)) (ha : a = none → n = 0 ∧ c = 0) (hn : n ≤ 4096) (hm : m ≤ 4096)
    (hC : C.length = m) (hos : OB w gc 94 (C.flatMap srvF)) (hor : OB w gr 91 [.map (some bm), .map none, .int .i64 0]) (hmb : MB w bm E) :
    Calls Trym.prog 53 #[.pointer (some ⟨gr, 0, none⟩), .slice (some ⟨gc, 0, none⟩) m c2, .slice a n c] w fun e w' => ∃ (gs : Nat) (v : Value) (S : List (Int × Int)), e = .returned (.tuple #[.slice (some ⟨gs, 0, none⟩) m m, v]) ∧ S.length = m ∧ OB w' gs 70 (S.flatMap seatF) ∧
      (∀ j c, C[j]? = some c → S[j]? = some (seatStep E (namesAfter E N (C.take j)) c.1).2) ∧ w'.ownsRow w.heap.size 9 1 v (namesAfter E N C).length ((namesAfter E N C).flatMap strF) ∧ Below w.heap.size w w' := by
  obtain ⟨i0, hi, hz0, hz1, hz2⟩ := info_parts info70
  obtain ⟨i9, hi9, hz90, hz91, hz92⟩ := info_parts info9
  have hl0 : N.length = n := hr.llen (fun _ => rfl) (by omega)
  have HR := hide hr
  have HOS := hide hos
  have HOR := hide hor
  have HMB := hide hmb
  have HC := hide hC
  clear hr hos hor hmb hC
  go_enter Trym.func53, Trym.ntmps53
  go_wp2_with fail
  refine (sclone_any a n c N w HR.out ha (by omega)).mono ?_
  rintro e w1 ⟨v1, rfl, o1, b1⟩
  have hb1n := b1.size
  go_wp2_with (at_make; refine wpList_make_full _ rfl _ _ 57 rfl w1.heap.size 70 i0 (.agg #[.int .i64 0, .int .u32 0]) 2 Trym.underlying57 hi hz0 hz1 .i64 .i64 _ _ m rfl rfl rfl rfl (by rw [hz2]; omega) (by unfold maxLen; omega) (Nat.le_refl _) ?_; intro w2 o2 g2)
  have ho2 : OB w2 w1.heap.size 70 ((List.replicate m ((0 : Int), (0 : Int))).flatMap seatF) := by
    have := own_full o2
    rw [show (Value.agg #[Value.int .i64 0, Value.int .u32 0]).cells = #[Value.int .i64 0, Value.int .u32 0] from rfl, made_seats] at this
    exact this
  have hb2 : Below w1.heap.size w1 w2 := grown_below g2 (Nat.le_refl _) (fun _ h => by cases h)
  have hb02 : Below w.heap.size w w2 := b1.trans (hb2.mono hb1n)
  have start : SeatInv w E N C w1.heap.size gr gc bm m 0 0 v1 w2 := by
    refine ⟨?_, Nat.zero_le _, fun j s hj => absurd hj (by omega), ⟨_, by simp, ho2, fun j c hj => absurd hj (by omega)⟩, HOS.out.below HOS.out.lt hb02, HOR.out.below HOR.out.lt hb02, HMB.out.below HMB.out.lt hb02, hb02⟩
    have := own_kept o1 hb2
    rw [← hl0] at this
    exact this
  have HI := hide start
  clear o1 b1 o2 g2 ho2 hb2 hb02 start hi hz0 hz1 hz2
  go_loopw [2, 9, 21] (fun v f i wr => ∃ (k fr : Nat), k ≤ m ∧ i = .int .i64 k ∧ f = .int .i64 fr ∧ SeatInv w E N C w1.heap.size gr gc bm m k fr v wr) (fun _ _ i _ => m - (intOf i).toNat)
  case atStart => exact ⟨0, 0, Nat.zero_le _, rfl, rfl, HI.out⟩
  case round =>
    obtain ⟨k, fr, hk, rfl, rfl, hinv⟩ := hrel
    by_cases hlt : k < m
    · have hC := HC.out
      obtain ⟨b, off, s, wt, e, hlt', hp, c1, c2⟩ := (hinv.srvs.row' (n := m) (sz := 2) (by rw [srv_len, hC])).srv hlt
      cases e
      rw [Nat.zero_add] at c1 c2
      have r0 : wr.cell? ⟨gr, 0, none⟩ = some (.map (some bm)) := by rw [hinv.ros.cell]; rfl
      obtain ⟨S, hS, hoS, hseats⟩ := hinv.seats
      have b1 : (k : Int) < (m : Int) := by omega
      obtain ⟨u1, e1⟩ := hoS.some (j := k * 2) (by rw [seat_len]; omega)
      obtain ⟨u2, e2⟩ := hoS.some (j := k * 2 + 1) (by rw [seat_len]; omega)
      have f1 := hoS.frozen (k * 2)
      have f2 := hoS.frozen (k * 2 + 1)
      have z1 : w1.heap.size < wr.heap.size := hoS.lt
      have z2 : gr < wr.heap.size := hinv.ros.lt
      have z3 : gc < wr.heap.size := hinv.srvs.lt
      have hl1 := run_look ((hinv.map.alloc (Obj.cells #[Value.string s, Value.int IntKind.i64 wt] 94)).drew) s
      have hl2 := run_look (((hinv.map.alloc (Obj.cells #[Value.string s, Value.int IntKind.i64 wt] 94)).alloc (Obj.cells #[Value.int IntKind.i64 0, Value.int IntKind.u32 0] 70)).drew) s
      have HV := hide hinv
      have HS := hide hseats
      have HSl := hide hS
      have HoS := hide hoS
      have HP := hide hp
      clear hinv hseats hS hoS hp hC
      cases hlk : look E s with
      | some v =>
        rw [hlk] at hl1 hl2
        simp only [seatAt, Option.getD_some, Option.isSome_some] at hl1 hl2
        have HLK := hide hlk
        clear hlk
        have hst : seatStep E (namesAfter E N (C.take k)) s = (namesAfter E N (C.take k), v) := by unfold seatStep; rw [HLK.out]
        have hna : namesAfter E N (C.take (k + 1)) = namesAfter E N (C.take k) := by rw [after_snoc HP.out, hst]
        have HA := hide hna
        have HST := hide hst
        clear hna hst
        go_wp2
        go_region
        all_goals
          go_wp2
          refine ⟨⟨k + 1, fr, by omega, by go_num, rfl, ?_⟩, by simp [intOf]; omega⟩
          have hV := HV.out
          refine inv_seat (wr := wr) (by rw [HA.out]; exact hV.own) (by rw [HA.out]; exact hV.free) (by rw [HA.out]; exact hV.full) HSl.out HoS.out HS.out hlt hV.srvs hV.ros hV.map hV.bel (by omega) HP.out (by rw [HST.out]) (by repeat (first | exact World.grownBy.refl _ _ | apply grown_drew | apply grown_all | apply grown_set)) ?_
          show OB _ _ 70 ((S.set k (v.1, v.2)).flatMap seatF)
          rw [seat_set S k v.1 v.2 (by rw [HSl.out]; exact hlt)]
          exact ((((HoS.out.set (k * 2) _).set (k * 2 + 1) _).alloc _).alloc _).drew
      | none =>
        rw [hlk] at hl1 hl2
        simp only [seatAt, Option.getD_none, Option.isSome_none] at hl1 hl2
        have HLK := hide hlk
        clear hlk
        obtain ⟨av, cv, hve, hrow, hav⟩ := own_shape9 HV.out.own
        subst hve
        generalize hnk : namesAfter E N (C.take k) = Nk at hrow hav
        have hnl := (after_len E N (C.take k)).2
        rw [hnk, List.length_take, hl0] at hnl
        have hfree : fr ≤ Nk.length := by rw [← hnk]; exact HV.out.free
        have hnk8 : Nk.length ≤ 8192 := by omega
        rw [hnk] at HV
        have HNK := hide hnk
        have HRW := hide hrow
        have HAV := hide hav
        clear hnk hrow hav hnl
        go_wp2
        go_region
        all_goals
          go_wp2
          go_loop [9] (fun i9 => ∃ f : Nat, fr ≤ f ∧ f ≤ Nk.length ∧ i9 = .int .i64 f ∧ ∀ (j : Nat) (x : ByteArray), j < f → Nk[j]? = some x → x ≠ noName) (fun i9 => Nk.length - (intOf i9).toNat)
          case atStart => exact ⟨fr, Nat.le_refl _, hfree, rfl, by rw [← HNK.out]; exact HV.out.full⟩
          case round =>
            obtain ⟨f, hff, hfn, rfl, hful⟩ := hrel
            have HFU := hide hful
            clear hful
            by_cases hfl : f < Nk.length
            · obtain ⟨b, off, nm, rfl, hb, hnm, c3⟩ := HRW.out.str hfl
              obtain ⟨g, hgg⟩ := HAV.out (by omega)
              cases hgg
              rw [Nat.zero_add] at c3
              have b3 : (f : Int) < (Nk.length : Int) := by omega
              have b4 : ((f : Int) == (Nk.length : Int)) = false := by simp; omega
              have fz : wr.frozen? ⟨b, f, none⟩ = false := by have h := HV.out.own; rw [HNK.out] at h; exact h.frozenAt f
              have nb1 : b ≠ w1.heap.size := fun e => own_ne_ob HV.out.own HoS.out (by decide) (by simp [Value.ownBlock, e])
              have nb2 : w1.heap.size ≠ b := fun e => nb1 e.symm
              by_cases hem : nm = noName
              · have hem' : nm.toList.isEmpty = true := by rw [hem, ByteArray.toList_eq]; rfl
                have HEM := hide hem
                have HNM := hide hnm
                clear hem hnm
                go_wp2
                refine ⟨⟨k + 1, f, by omega, by go_num, rfl, ?_⟩, by simp [intOf]; omega⟩
                exact inv_in HV.out HNK.out HSl.out HoS.out HS.out hlt (by omega) HP.out HLK.out hfl HFU.out (fun x hx => by rw [HNM.out] at hx; cases hx; exact HEM.out)
              · have hem' : nm.toList.isEmpty = false := by
                  rw [ByteArray.toList_eq]
                  refine Bool.eq_false_iff.2 fun h => hem ?_
                  have : nm.data.toList = [] := by simpa using h
                  cases nm; simp only [Array.toList_eq_nil_iff] at this; subst this; rfl
                have HNM := hide hnm
                clear hnm
                have HEM := hide hem
                clear hem
                go_wp2
                refine ⟨⟨f + 1, by omega, by omega, by go_num, fun j x hj hx => ?_⟩, by simp [intOf]; omega⟩
                by_cases e : j = f
                · subst e
                  rw [HNM.out] at hx
                  cases hx
                  exact HEM.out
                · exact HFU.out j x (by omega) hx
            · have ef : f = Nk.length := by omega
              subst ef
              have hown := HV.out.own
              rw [HNK.out] at hown
              have b4 : ((Nk.length : Int) == (Nk.length : Int)) = true := by simp
              have hwn : w.heap.size ≤ wr.heap.size := HV.out.bel.size
              go_wp2_with (at_builtin; refine wpList_append_own _ rfl _ _ 47 rfl w.heap.size 9 i9 (.string ⟨#[]⟩) 1 16 Trym.underlying47 hi9 hz90 hz91 hz92 rfl (by decide) _ Nk.length (Nk.flatMap strF) rfl ((((hown.alloc _).alloc _).alloc _).drew) ⟨wr.heap.size + 1 + 1, 0, none⟩ 1 1 [.string ⟨#[]⟩] rfl rfl (cells_new3 wr _ _ 9 _) (one_str _) (by unfold maxLen; omega) (by omega) (by simp; omega) ?_)
              intro v' w3 h1 h2 _
              obtain ⟨g', c', rfl, HAP⟩ := appended HV.out HNK.out HoS.out h1 h2
              have A := hide HAP
              have q1 : w3.cell? ⟨wr.heap.size, 0, none⟩ = some (.string s) := by rw [HAP.srv.cell]; rfl
              have q2 : w3.cell? ⟨wr.heap.size + 1, 0, none⟩ = some (.int .i64 0) := by rw [HAP.seat.cell]; rfl
              have q3 : w3.cell? ⟨wr.heap.size + 1, 1, none⟩ = some (.int .u32 0) := by rw [HAP.seat.cell]; rfl
              have q4 : w3.frozen? ⟨wr.heap.size + 1, 1, none⟩ = false := HAP.seat.frozen 1
              have q5 : w3.cell? ⟨g', Nk.length, none⟩ = some (.string ⟨#[]⟩) := by
                rw [HAP.own.cellAt Nk.length (by omega), str_flat]; simp [noName]
              have q6 : w3.frozen? ⟨g', Nk.length, none⟩ = false := HAP.own.frozenAt _
              obtain ⟨t1, q7⟩ := HAP.seats.some (j := k * 2) (by rw [seat_len, HSl.out]; omega)
              obtain ⟨t2, q8⟩ := HAP.seats.some (j := k * 2 + 1) (by rw [seat_len, HSl.out]; omega)
              have q9 := HAP.seats.frozen (k * 2)
              have q10 := HAP.seats.frozen (k * 2 + 1)
              have d1 : g' ≠ wr.heap.size + 1 := fun e => own_ne_ob HAP.own HAP.seat (by decide) (by simp [Value.ownBlock, e])
              have d2 : g' ≠ w1.heap.size := fun e => own_ne_ob HAP.own HAP.seats (by decide) (by simp [Value.ownBlock, e])
              have d3 : w1.heap.size ≠ wr.heap.size + 1 := by omega
              have d4 : w1.heap.size ≠ g' := fun e => d2 e.symm
              have d5 : g' ≠ wr.heap.size := fun e => own_ne_ob HAP.own HAP.srv (by decide) (by simp [Value.ownBlock, e])
              have d6 : wr.heap.size + 1 ≠ g' := fun e => d1 e.symm
              have d7 : wr.heap.size ≠ g' := fun e => d5 e.symm
              have b5 : (Nk.length : Int) < (Nk.length : Int) + 1 := by omega
              clear h1 h2 HAP hown
              go_wp2
              refine ⟨⟨k + 1, Nk.length, by omega, by go_num, rfl, ?_⟩, by simp [intOf]; omega⟩
              exact inv_app A.out HNK.out HSl.out HS.out hlt (by omega) hwn z1 HP.out HLK.out HFU.out
    · have e : k = m := by omega
      subst e
      have hC := HC.out
      have htk : C.take k = C := List.take_of_length_le (by omega)
      obtain ⟨S, hS, hoS, hseats⟩ := hinv.seats
      have hown := hinv.own
      rw [htk] at hown
      have hb := hinv.bel
      clear hinv
      go_wp2
      go_ret2
      exact ⟨_, _, S, rfl, hS, hoS, fun j c hc => hseats j c (by have := (List.getElem?_eq_some_iff.1 hc).1; omega) hc, hown, hb⟩

/-! ### The export -/
theorem zzSeats {v1 v2 v3 : Value} {w : World} {R : Ending → World → Prop} (h : Calls Trym.prog 53 #[v1, v2, v3] w R) (hR : ∀ e w', R e w' → ∃ v v', e = .returned (.tuple #[v, v'])) : Calls Trym.prog 30 #[v1, v2, v3] w R := by
  have H := hide h
  have HR := hide hR
  clear h hR
  go_enter Trym.func30, Trym.ntmps30
  go_wp2_with fail
  refine H.out.mono ?_
  intro e w' hr
  obtain ⟨v, v', rfl⟩ := HR.out e w' hr
  have HHr := hide hr
  clear hr
  go_wp2
  first | exact HHr.out | (go_ret2; exact HHr.out)
end Go.Proofs.Qxb6601991aMods
