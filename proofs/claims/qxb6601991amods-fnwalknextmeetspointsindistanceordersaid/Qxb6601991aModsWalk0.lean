/-
  FnWalkNextMeetsPointsInDistanceOrder: the plain law: the order of meeting, its merges, and the walk that meets it.
-/
import Derived.Test.Qxb6601991aModsOpen
namespace Go.Proofs.Qxb6601991aMods
set_option linter.unusedVariables false

/-! ### The order of keys -/
theorem bl_irr : ∀ x : List UInt8, Op.bytesLess x x = false
  | [] => rfl
  | a :: x => by simp [Op.bytesLess, bl_irr x]
theorem bl_asym : ∀ x y : List UInt8, Op.bytesLess x y = true → Op.bytesLess y x = false
  | [], [], h => by simp [Op.bytesLess] at h
  | _ :: _, [], h => by simp [Op.bytesLess] at h
  | [], _ :: _, _ => rfl
  | a :: x, b :: y, h => by
    simp only [Op.bytesLess, Bool.or_eq_true, decide_eq_true_eq, Bool.and_eq_true, beq_iff_eq] at h
    simp only [Op.bytesLess, Bool.or_eq_false_iff, decide_eq_false_iff_not, Bool.and_eq_false_iff, beq_eq_false_iff_ne]
    rcases h with h | ⟨h1, h2⟩
    · exact ⟨UInt8.not_lt.2 (UInt8.le_of_lt h), .inl (fun e => by subst e; exact UInt8.lt_irrefl _ h)⟩
    · subst h1
      exact ⟨UInt8.lt_irrefl _, .inr (bl_asym x y h2)⟩
theorem bl_trans : ∀ x y z : List UInt8, Op.bytesLess x y = true → Op.bytesLess y z = true → Op.bytesLess x z = true
  | _, _, [], _, h => by simp [Op.bytesLess] at h
  | [], _, _ :: _, _, _ => rfl
  | _ :: _, [], _ :: _, h, _ => by simp [Op.bytesLess] at h
  | a :: x, b :: y, c :: z, h1, h2 => by
    simp only [Op.bytesLess, Bool.or_eq_true, decide_eq_true_eq, Bool.and_eq_true, beq_iff_eq] at h1 h2 ⊢
    rcases h1 with h1 | ⟨h1, h1'⟩ <;> rcases h2 with h2 | ⟨h2, h2'⟩
    · exact .inl (UInt8.lt_trans h1 h2)
    · subst h2; exact .inl h1
    · subst h1; exact .inl h2
    · subst h1; subst h2; exact .inr ⟨rfl, bl_trans x y z h1' h2'⟩
theorem bl_tri : ∀ x y : List UInt8, Op.bytesLess x y = false → Op.bytesLess y x = false → x = y
  | [], [], _, _ => rfl
  | _ :: _, [], _, h => by simp [Op.bytesLess] at h
  | [], _ :: _, h, _ => by simp [Op.bytesLess] at h
  | a :: x, b :: y, h1, h2 => by
    simp only [Op.bytesLess, Bool.or_eq_false_iff, decide_eq_false_iff_not, Bool.and_eq_false_iff, beq_eq_false_iff_ne] at h1 h2
    have e : a = b := UInt8.le_antisymm (UInt8.not_lt.1 h2.1) (UInt8.not_lt.1 h1.1)
    subst e
    rw [bl_tri x y (h1.2.resolve_left (fun h => h rfl)) (h2.2.resolve_left (fun h => h rfl))]

/-- A key: the distance, and the name. -/
def lessK (a b : Int × List UInt8) : Bool := if a.1 = b.1 then Op.bytesLess a.2 b.2 else decide (a.1 < b.1)
theorem lessK_irr (a : Int × List UInt8) : lessK a a = false := by simp [lessK, bl_irr]
theorem lessK_asym {a b : Int × List UInt8} (h : lessK a b = true) : lessK b a = false := by
  unfold lessK at *
  by_cases e : a.1 = b.1
  · rw [if_pos e] at h; rw [if_pos e.symm]; exact bl_asym _ _ h
  · rw [if_neg e] at h; rw [if_neg (Ne.symm e)]; simp at h ⊢; omega
theorem lessK_trans {a b c : Int × List UInt8} (h1 : lessK a b = true) (h2 : lessK b c = true) : lessK a c = true := by
  unfold lessK at *
  by_cases e1 : a.1 = b.1 <;> by_cases e2 : b.1 = c.1
  · rw [if_pos e1] at h1; rw [if_pos e2] at h2; rw [if_pos (e1.trans e2)]; exact bl_trans _ _ _ h1 h2
  · rw [if_neg e2] at h2; rw [if_neg (by rw [e1]; exact e2)]; rw [e1]; exact h2
  · rw [if_neg e1] at h1; rw [if_neg (by rw [← e2]; exact e1)]; rw [← e2]; exact h1
  · rw [if_neg e1] at h1; rw [if_neg e2] at h2
    simp only [decide_eq_true_eq] at h1 h2
    rw [if_neg (by omega)]; simp; omega
theorem lessK_tri {a b : Int × List UInt8} (h1 : lessK a b = false) (h2 : lessK b a = false) : a = b := by
  unfold lessK at *
  by_cases e : a.1 = b.1
  · rw [if_pos e] at h1; rw [if_pos e.symm] at h2
    exact Prod.ext e (bl_tri _ _ h1 h2)
  · rw [if_neg e] at h1; rw [if_neg (Ne.symm e)] at h2
    simp at h1 h2; omega

section
variable (key : Nat → Int × List UInt8)
/-- x is met before y, or is y: by the keys, then by the numbers. -/
def leS (x y : Nat) : Bool := lessK (key x) (key y) || (!lessK (key y) (key x) && decide (x ≤ y))
theorem leS_iff (x y : Nat) : leS key x y = true ↔ lessK (key x) (key y) = true ∨ (key x = key y ∧ x ≤ y) := by
  unfold leS
  simp only [Bool.or_eq_true, Bool.and_eq_true, Bool.not_eq_true', decide_eq_true_eq]
  constructor
  · rintro (h | ⟨h1, h2⟩)
    · exact .inl h
    · cases h : lessK (key x) (key y) with
      | true => exact .inl rfl
      | false => exact .inr ⟨lessK_tri h h1, h2⟩
  · rintro (h | ⟨h1, h2⟩)
    · exact .inl h
    · exact .inr ⟨by rw [h1]; exact lessK_irr _, h2⟩
theorem leS_trans (x y z : Nat) (h1 : leS key x y = true) (h2 : leS key y z = true) : leS key x z = true := by
  rw [leS_iff] at *
  rcases h1 with h1 | ⟨h1, h1'⟩ <;> rcases h2 with h2 | ⟨h2, h2'⟩
  · exact .inl (lessK_trans h1 h2)
  · rw [h2] at h1; exact .inl h1
  · rw [← h1] at h2; exact .inl h2
  · exact .inr ⟨h1.trans h2, by omega⟩
theorem leS_total (x y : Nat) : (leS key x y || leS key y x) = true := by
  rw [Bool.or_eq_true, leS_iff, leS_iff]
  cases h1 : lessK (key x) (key y) with
  | true => exact .inl (.inl rfl)
  | false => cases h2 : lessK (key y) (key x) with
    | true => exact .inr (.inl rfl)
    | false =>
      have e := lessK_tri h1 h2
      rcases Nat.le_total x y with h | h
      · exact .inl (.inr ⟨e, h⟩)
      · exact .inr (.inr ⟨e.symm, h⟩)
theorem leS_anti {x y : Nat} (h1 : leS key x y = true) (h2 : leS key y x = true) : x = y := by
  rw [leS_iff] at *
  rcases h1 with h1 | ⟨h1, h1'⟩ <;> rcases h2 with h2 | ⟨h2, h2'⟩
  · rw [lessK_asym h1] at h2; cases h2
  · rw [h2, lessK_irr] at h1; cases h1
  · rw [h1, lessK_irr] at h2; cases h2
  · omega
theorem leS_refl (x : Nat) : leS key x x = true := by rw [leS_iff]; exact .inr ⟨rfl, Nat.le_refl _⟩
/-- A lower number comes first unless the higher one's key is lower. -/
theorem leS_lt {x y : Nat} (h : x < y) : leS key x y = !lessK (key y) (key x) := by
  cases h1 : lessK (key y) (key x) with
  | true => unfold leS; simp [h1, lessK_asym h1]
  | false =>
    unfold leS
    have : x ≤ y := by omega
    simp [h1, this]
theorem leS_of_less {x y : Nat} (h : lessK (key x) (key y) = true) : leS key x y = true := by rw [leS_iff]; exact .inl h

/-- The numbers lo .. hi-1 in their order. -/
def srt (lo hi : Nat) : List Nat := (List.range' lo (hi - lo)).mergeSort (leS key)
theorem srt_perm (lo hi : Nat) : (srt key lo hi).Perm (List.range' lo (hi - lo)) := List.mergeSort_perm _ _
theorem srt_sorted (lo hi : Nat) : (srt key lo hi).Pairwise (fun a b => leS key a b = true) := List.pairwise_mergeSort (leS_trans key) (leS_total key) _
theorem srt_len (lo hi : Nat) : (srt key lo hi).length = hi - lo := by rw [(srt_perm key lo hi).length_eq, List.length_range']
theorem srt_mem {lo hi x : Nat} : x ∈ srt key lo hi ↔ lo ≤ x ∧ x < hi := by
  rw [(srt_perm key lo hi).mem_iff, List.mem_range'_1]
  omega
theorem srt_merge {lo mid hi : Nat} (h1 : lo ≤ mid) (h2 : mid ≤ hi) : (srt key lo mid).merge (srt key mid hi) (leS key) = srt key lo hi := by
  refine List.Perm.eq_of_pairwise (le := fun a b => leS key a b = true) (fun a b _ _ => leS_anti key) (List.pairwise_merge (leS_trans key) (leS_total key) _ _ (srt_sorted key _ _) (srt_sorted key _ _)) (srt_sorted key _ _) ?_
  refine (List.merge_perm_append _).trans (((srt_perm key lo mid).append (srt_perm key mid hi)).trans (List.Perm.trans ?_ (srt_perm key lo hi).symm))
  have e : List.range' lo (mid - lo) ++ List.range' mid (hi - mid) = List.range' lo (hi - lo) := by
    have := @List.range'_append_1 lo (mid - lo) (hi - mid)
    rw [show lo + (mid - lo) = mid by omega, show mid - lo + (hi - mid) = hi - lo by omega] at this
    exact this
  rw [e]
theorem srt_one (c : Nat) : srt key c (c + 1) = [c] := by
  have h := srt_perm key c (c + 1)
  rw [show c + 1 - c = 1 by omega] at h
  exact List.perm_singleton.1 h

/-- One step of a merge. -/
theorem merge_step {lo mid hi i j : Nat} (h1 : lo ≤ i) (h2 : i < mid) (h3 : mid ≤ j) (h4 : j < hi) {x y : Nat} (hx : (srt key lo mid)[i - lo]? = some x) (hy : (srt key mid hi)[j - mid]? = some y) :
    ((srt key lo mid).drop (i - lo)).merge ((srt key mid hi).drop (j - mid)) (leS key) =
      if lessK (key y) (key x) = true then y :: ((srt key lo mid).drop (i - lo)).merge ((srt key mid hi).drop (j + 1 - mid)) (leS key)
      else x :: ((srt key lo mid).drop (i + 1 - lo)).merge ((srt key mid hi).drop (j - mid)) (leS key) := by
  have hxl := (List.getElem?_eq_some_iff.1 hx).1
  have hyl := (List.getElem?_eq_some_iff.1 hy).1
  have hx' := (List.getElem?_eq_some_iff.1 hx).2
  have hy' := (List.getElem?_eq_some_iff.1 hy).2
  have mx := (srt_mem key).1 (List.mem_of_getElem? hx)
  have my := (srt_mem key).1 (List.mem_of_getElem? hy)
  rw [show i + 1 - lo = i - lo + 1 by omega, show j + 1 - mid = j - mid + 1 by omega]
  have ex : (srt key lo mid).drop (i - lo) = x :: (srt key lo mid).drop (i - lo + 1) := by rw [List.drop_eq_getElem_cons hxl, hx']
  have ey : (srt key mid hi).drop (j - mid) = y :: (srt key mid hi).drop (j - mid + 1) := by rw [List.drop_eq_getElem_cons hyl, hy']
  rw [ex, ey, List.cons_merge_cons, leS_lt key (show x < y by omega)]
  cases lessK (key y) (key x) <;> simp

/-- The order at t, where the first t are known and the rest come behind e. -/
theorem srt_at {hi t e : Nat} (he : e < hi) (hn : e ∉ (srt key 0 hi).take t) (hmin : ∀ x, x < hi → x ∉ (srt key 0 hi).take t → leS key e x = true) : (srt key 0 hi)[t]? = some e := by
  have hm : e ∈ srt key 0 hi := (srt_mem key).2 ⟨Nat.zero_le _, he⟩
  obtain ⟨u, hu, hue⟩ := List.getElem_of_mem hm
  have htu : t ≤ u := by
    refine Nat.le_of_not_lt fun h => hn ?_
    rw [List.mem_take_iff_getElem]
    exact ⟨u, by omega, hue⟩
  have htl : t < (srt key 0 hi).length := by omega
  have hnd : (srt key 0 hi).Nodup := (srt_perm key 0 hi).nodup_iff.2 (List.nodup_range' (step := 1) (h := Nat.one_pos))
  have hy : (srt key 0 hi)[t] ∉ (srt key 0 hi).take t := by
    rw [List.mem_take_iff_getElem]
    rintro ⟨v, hv, e1⟩
    have := (List.getElem_inj (h₀ := by omega) (h₁ := htl) hnd).1 e1
    omega
  have h1 := hmin _ ((srt_mem key).1 (List.getElem_mem htl)).2 hy
  have h2 : leS key (srt key 0 hi)[t] e = true := by
    by_cases h : t = u
    · subst h; rw [hue]; exact leS_refl key e
    · have := List.pairwise_iff_getElem.1 (srt_sorted key 0 hi) t u htl hu (by omega)
      rw [hue] at this; exact this
  rw [List.getElem?_eq_getElem htl, leS_anti key h1 h2]
end
end Go.Proofs.Qxb6601991aMods
