/-
  appendLiteralsHeader (function 20) and its export (10): what they append, as a list of bytes.
-/
import Derived.Test.Qxb6601950aModsRows
import Derived.WalkKit
import Derived.ProofKit
import Derived.Handy
namespace Go.Proofs.Qxb6601950aMods
open Go.ChangeShapes Go.WideShapes Go.ChangeAt Go.RowKit

/-- The header's bytes. -/
def hdr (k m : Int) : List Int :=
  if m < 32 then [k + m * 8]
  else if m < 4096 then [(k + 4 + m * 16) % 256, (k + 4 + m * 16) / 256]
  else [(k + 12 + m * 16) % 256, (k + 12 + m * 16) / 256 % 256, (k + 12 + m * 16) / 65536]

theorem or_u32 (i : Nat) (a b : Int) (ha : 0 ≤ a) (ha' : a < ((2 ^ i : Nat) : Int)) (hb : 0 ≤ b) (hb' : b < 4294967296) (hm : b.toNat % 2 ^ i = 0) (h4 : 2 ^ i ≤ 4294967296) : bits BinOp.or IntKind.u32 a b = a + b := by
  rw [u32_or a b ha (by omega) hb hb', Nat.or_comm, nat_join i b.toNat a.toNat hm (by omega)]
  omega

theorem or4 (k : Int) (h : 0 ≤ k) (h' : k ≤ 3) : bits BinOp.or IntKind.u32 k 4 = k + 4 := or_u32 2 k 4 h (by omega) (by omega) (by omega) (by decide) (by decide)
theorem or12 (k : Int) (h : 0 ≤ k) (h' : k ≤ 3) : bits BinOp.or IntKind.u32 k 12 = k + 12 := or_u32 2 k 12 h (by omega) (by omega) (by omega) (by decide) (by decide)
theorem or8m (k m : Int) (h : 0 ≤ k) (h' : k ≤ 3) (hm : 0 ≤ m) (hm' : m < 32) : bits BinOp.or IntKind.u32 k (m * 8) = k + m * 8 := or_u32 3 k _ h (by omega) (by omega) (by omega) (by omega) (by decide)
theorem or16m (k m : Int) (h : 0 ≤ k) (h' : k ≤ 15) (hm : 0 ≤ m) (hm' : m < 1048576) : bits BinOp.or IntKind.u32 k (m * 16) = k + m * 16 := or_u32 4 k _ h (by omega) (by omega) (by omega) (by omega) (by decide)

theorem info5 : (Trym.prog.info? 5).map (fun i => (i.zero, i.size, i.bytes)) = some (some (.int .u8 0), 1, 1) := by kernel_rfl

/-- The cells of a block that has just been laid. -/
theorem cells_new (w : World) (t : TypeId) (l : List Value) : ∀ (j : Nat) (u : Value), l[j]? = some u → (w.alloc (.cells l.toArray t)).cell? ((⟨w.heap.size, 0, none⟩ : Addr).add j) = some u := by
  intro j u h
  rw [Addr.add_lit, Nat.zero_add]
  unfold World.cell?
  rw [heap_alloc_new]
  simpa using h

theorem one_ints (k : IntKind) (l : List Int) : ∀ u ∈ l.map (Value.int k), u.oneCell' = true := ints_oneCell k l

theorem grown_alloc {w w' : World} {o : Obj} {r : Option Nat} (h : (w.alloc o).grownBy w' r) : w.grownBy w' r :=
  ⟨h.os, h.tape, h.output, by have := h.size; simp at this; omega, fun k hk hr => (h.block k (by simp only [World.size_alloc]; omega) hr).trans (Below.heap_alloc w o k hk)⟩

theorem app_end {w w' : World} {o : Obj} {v v' : Value} {base n m : Nat} {xs ys zs : List Value} (h1 : w'.ownsRow base 5 1 v' (n + m) (xs ++ ys)) (h2 : (w.alloc o).grownBy w' v.ownBlock) (e : ys = zs) (hm : m = zs.length) :
    ∃ v'', Ending.returned v' = .returned v'' ∧ w'.ownsRow base 5 1 v'' (n + zs.length) (xs ++ zs) ∧ w.grownBy w' v.ownBlock := by
  subst e; subst hm
  exact ⟨v', rfl, h1, grown_alloc h2⟩

section
variable (base : Nat) (v : Value) (n : Nat) (xs : List Value) (w : World) (k m : Int)

set_option maxHeartbeats 1000000 in
theorem app1 (hown : w.ownsRow base 5 1 v n xs) (hk : 0 ≤ k) (hk' : k ≤ 3) (hb : base ≤ w.heap.size) (hn : n ≤ 1048576) (hm : 0 ≤ m) (hm' : m < 32) :
    Calls Trym.prog 20 #[v, .int .u32 k, .int .i64 m] w fun e w' => ∃ v', e = .returned v' ∧ w'.ownsRow base 5 1 v' (n + ((hdr k m).map (Value.int .u8)).length) (xs ++ (hdr k m).map (Value.int .u8)) ∧ w.grownBy w' v.ownBlock := by
  obtain ⟨i0, hi, hz0, hz1, hz2⟩ := info_parts info5
  have e : hdr k m = [k + m * 8] := by simp [hdr, hm']
  rw [e]; clear e
  have o1 := or8m k m hk hk' hm hm'
  go_enter Trym.func20, Trym.ntmps20
  go_wp2_with (at_builtin; refine wpList_append_own _ rfl _ _ 22 rfl base 5 i0 (.int .u8 0) 1 1 Trym.underlying22 hi hz0 hz1 hz2 rfl (by decide) v n xs rfl (hown.alloc _) ⟨w.heap.size, 0, none⟩ 1 1 ([k + m * 8].map (Value.int .u8)) rfl rfl (cells_new w 5 _) (one_ints _ _) (by unfold maxLen; omega) (by omega) (by simp; omega) ?_)
  intro v' w' h1 h2 _
  go_wp2
  go_ret
  exact app_end h1 h2 rfl rfl

set_option maxHeartbeats 1000000 in
theorem app2 (hown : w.ownsRow base 5 1 v n xs) (hk : 0 ≤ k) (hk' : k ≤ 3) (hb : base ≤ w.heap.size) (hn : n ≤ 1048576) (hm : 32 ≤ m) (hm' : m < 4096) :
    Calls Trym.prog 20 #[v, .int .u32 k, .int .i64 m] w fun e w' => ∃ v', e = .returned v' ∧ w'.ownsRow base 5 1 v' (n + ((hdr k m).map (Value.int .u8)).length) (xs ++ (hdr k m).map (Value.int .u8)) ∧ w.grownBy w' v.ownBlock := by
  obtain ⟨i0, hi, hz0, hz1, hz2⟩ := info_parts info5
  have hm0 : ¬ m < 32 := by omega
  have e : hdr k m = [(k + 4 + m * 16) % 256, (k + 4 + m * 16) / 256] := by simp [hdr, hm', hm0]
  rw [e]; clear e
  have o1 := or4 k hk hk'
  have o2 := or16m (k + 4) m (by omega) (by omega) (by omega) (by omega)
  go_enter Trym.func20, Trym.ntmps20
  go_wp2_with (at_builtin; refine wpList_append_own _ rfl _ _ 22 rfl base 5 i0 (.int .u8 0) 1 1 Trym.underlying22 hi hz0 hz1 hz2 rfl (by decide) v n xs rfl (hown.alloc _) ⟨w.heap.size, 0, none⟩ 2 2 ([(k + 4 + m * 16) % 256, (k + 4 + m * 16) / 256].map (Value.int .u8)) rfl rfl (cells_new w 5 _) (one_ints _ _) (by unfold maxLen; omega) (by omega) (by simp; omega) ?_)
  intro v' w' h1 h2 _
  go_wp2
  go_ret
  exact app_end h1 h2 rfl rfl

set_option maxHeartbeats 1000000 in
theorem app3 (hown : w.ownsRow base 5 1 v n xs) (hk : 0 ≤ k) (hk' : k ≤ 3) (hb : base ≤ w.heap.size) (hn : n ≤ 1048576) (hm : 4096 ≤ m) (hm' : m < 1048576) :
    Calls Trym.prog 20 #[v, .int .u32 k, .int .i64 m] w fun e w' => ∃ v', e = .returned v' ∧ w'.ownsRow base 5 1 v' (n + ((hdr k m).map (Value.int .u8)).length) (xs ++ (hdr k m).map (Value.int .u8)) ∧ w.grownBy w' v.ownBlock := by
  obtain ⟨i0, hi, hz0, hz1, hz2⟩ := info_parts info5
  have hm0 : ¬ m < 32 := by omega
  have hm1 : ¬ m < 4096 := by omega
  have e : hdr k m = [(k + 12 + m * 16) % 256, (k + 12 + m * 16) / 256 % 256, (k + 12 + m * 16) / 65536] := by simp [hdr, hm1, hm0]
  rw [e]; clear e
  have o1 := or12 k hk hk'
  have o2 := or16m (k + 12) m (by omega) (by omega) (by omega) (by omega)
  go_enter Trym.func20, Trym.ntmps20
  go_wp2_with (at_builtin; refine wpList_append_own _ rfl _ _ 22 rfl base 5 i0 (.int .u8 0) 1 1 Trym.underlying22 hi hz0 hz1 hz2 rfl (by decide) v n xs rfl (hown.alloc _) ⟨w.heap.size, 0, none⟩ 3 3 ([(k + 12 + m * 16) % 256, (k + 12 + m * 16) / 256 % 256, (k + 12 + m * 16) / 65536].map (Value.int .u8)) rfl rfl (cells_new w 5 _) (one_ints _ _) (by unfold maxLen; omega) (by omega) (by simp; omega) ?_)
  intro v' w' h1 h2 _
  go_wp2
  go_ret
  exact app_end h1 h2 rfl rfl

/-- The unexported function, then its export. -/
theorem app_any (hown : w.ownsRow base 5 1 v n xs) (hk : 0 ≤ k) (hk' : k ≤ 3) (hb : base ≤ w.heap.size) (hn : n ≤ 1048576) (hm : 0 ≤ m) (hm' : m < 1048576) :
    Calls Trym.prog 20 #[v, .int .u32 k, .int .i64 m] w fun e w' => ∃ v', e = .returned v' ∧ w'.ownsRow base 5 1 v' (n + ((hdr k m).map (Value.int .u8)).length) (xs ++ (hdr k m).map (Value.int .u8)) ∧ w.grownBy w' v.ownBlock := by
  by_cases h1 : m < 32
  · exact app1 base v n xs w k m hown hk hk' hb hn hm h1
  · by_cases h2 : m < 4096
    · exact app2 base v n xs w k m hown hk hk' hb hn (by omega) h2
    · exact app3 base v n xs w k m hown hk hk' hb hn (by omega) hm'

theorem zzapp_any (hown : w.ownsRow base 5 1 v n xs) (hk : 0 ≤ k) (hk' : k ≤ 3) (hb : base ≤ w.heap.size) (hn : n ≤ 1048576) (hm : 0 ≤ m) (hm' : m < 1048576) :
    Calls Trym.prog 10 #[v, .int .u32 k, .int .i64 m] w fun e w' => ∃ v', e = .returned v' ∧ w'.ownsRow base 5 1 v' (n + ((hdr k m).map (Value.int .u8)).length) (xs ++ (hdr k m).map (Value.int .u8)) ∧ w.grownBy w' v.ownBlock := by
  go_enter Trym.func10, Trym.ntmps10
  go_wp2_with (go_at_call 20; refine (app_any base v n xs w k m hown hk hk' hb hn hm hm').mono ?_; rintro e w' ⟨v', rfl, h1, h2⟩)
  go_ret
  exact ⟨_, rfl, h1, h2⟩
end
end Go.Proofs.Qxb6601950aMods
