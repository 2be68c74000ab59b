/-
  Seat b6627526a: Operation.Value (5) and readMask (6) by their contracts.
-/
import Derived.Test.Qxb6627526aRows
import Derived.WalkKit
import Derived.WalkSpells
import Derived.WalkLawsBesides
namespace Go.Proofs.Qxb6627526a
open Go.RowKit

set_option maxHeartbeats 400000 in
theorem mask_yes (mask : Int) (h : (mask != 0) = true) (w : World) : Calls Try.prog 6 #[.int .i64 0, .int .u64 mask] w fun e w' => e = .returned (.int .u64 mask) ∧ w' = w := by
  go_enter Try.func6, Try.ntmps6
  go_wp2
  go_ret
  exact ⟨rfl, rfl⟩

set_option maxHeartbeats 400000 in
theorem mask_no (w : World) : Calls Try.prog 6 #[.int .i64 0, .int .u64 0] w fun e w' => e = .returned (.int .u64 18446744073709551615) ∧ w' = w := by
  go_enter Try.func6, Try.ntmps6
  go_wp2
  go_ret
  exact ⟨rfl, rfl⟩

set_option maxHeartbeats 400000 in
theorem mask_one (mask : Int) (w : World) : Calls Try.prog 6 #[.int .i64 1, .int .u64 mask] w fun e w' => e = .returned (.int .u64 18446744073709551615) ∧ w' = w := by
  go_enter Try.func6, Try.ntmps6
  go_wp2
  go_ret
  exact ⟨rfl, rfl⟩

theorem and_zero (mask : Int) : bits .and .u64 0 mask = 0 := by
  show IntKind.u64.wrap ((BitVec.ofInt 64 0 &&& BitVec.ofInt 64 mask).toNat : Int) = 0
  rw [show BitVec.ofInt 64 0 = 0#64 from rfl, BitVec.zero_and]
  rfl

set_option maxHeartbeats 400000 in
theorem value_0z (ao : Option Addr) (c : Nat) (a0 a1 : Int) (w : World) :
    Calls Try.prog 5 #[.agg #[.slice ao 0 c, .int .u64 0], .agg #[.int .u64 a0, .int .u64 a1]] w fun e w' => e = .returned (.agg #[.int .u64 0, .int .u64 0]) ∧ Below w.heap.size w w' := by
  go_enter Try.func5, Try.ntmps5
  go_wp2
  refine wp_loop_rounds 1 ?_
  rw [rounds_succ]
  go_wp2
  refine bodyPost_ret (v := .agg #[.int .u64 0, .int .u64 0]) (by simp [results, Try.results5, go_sem]) rfl ⟨rfl, ?_⟩
  exact ((((Below.refl _ w).alloc (Nat.le_refl _) _).alloc (by simp) _).alloc (by simp; omega) _).alloc (by simp; omega) _

set_option maxHeartbeats 400000 in
theorem value_0m (ao : Option Addr) (c : Nat) (mask : Int) (a0 a1 : Int) (h : (mask != 0) = true) (w : World) :
    Calls Try.prog 5 #[.agg #[.slice ao 0 c, .int .u64 mask], .agg #[.int .u64 a0, .int .u64 a1]] w fun e w' => e = .returned (.agg #[.int .u64 0, .int .u64 0]) ∧ Below w.heap.size w w' := by
  have z := and_zero mask
  go_enter Try.func5, Try.ntmps5
  go_wp2
  refine wp_loop_rounds 1 ?_
  rw [rounds_succ]
  go_wp2
  refine bodyPost_ret (v := .agg #[.int .u64 0, .int .u64 0]) (by simp [results, Try.results5, go_sem]) rfl ⟨rfl, ?_⟩
  exact ((((Below.refl _ w).alloc (Nat.le_refl _) _).alloc (by simp) _).alloc (by simp; omega) _).alloc (by simp; omega) _

set_option maxHeartbeats 400000 in
theorem value_1z (ao : Option Addr) (c : Nat) (a0 a1 : Int) (w : World) :
    Calls Try.prog 5 #[.agg #[.slice ao 1 c, .int .u64 0], .agg #[.int .u64 a0, .int .u64 a1]] w fun e w' => e = .returned (.agg #[.int .u64 a0, .int .u64 0]) ∧ Below w.heap.size w w' := by
  go_enter Try.func5, Try.ntmps5
  go_wp2
  refine wp_loop_rounds 2 ?_
  rw [rounds_succ]
  go_wp2
  rw [rounds_succ]
  go_wp2
  refine bodyPost_ret (v := .agg #[.int .u64 a0, .int .u64 0]) (by simp [results, Try.results5, go_sem]) rfl ⟨rfl, ?_⟩
  exact ((((Below.refl _ w).alloc (Nat.le_refl _) _).alloc (by simp) _).alloc (by simp; omega) _).alloc (by simp; omega) _

set_option maxHeartbeats 400000 in
theorem value_1m (ao : Option Addr) (c : Nat) (mask : Int) (a0 a1 : Int) (h : (mask != 0) = true) (w : World) :
    Calls Try.prog 5 #[.agg #[.slice ao 1 c, .int .u64 mask], .agg #[.int .u64 a0, .int .u64 a1]] w fun e w' => e = .returned (.agg #[.int .u64 (bits .and .u64 a0 mask), .int .u64 0]) ∧ Below w.heap.size w w' := by
  go_enter Try.func5, Try.ntmps5
  go_wp2
  refine wp_loop_rounds 2 ?_
  rw [rounds_succ]
  go_wp2
  rw [rounds_succ]
  go_wp2
  refine bodyPost_ret (v := .agg #[.int .u64 (bits .and .u64 a0 mask), .int .u64 0]) (by simp [results, Try.results5, go_sem]) rfl ⟨rfl, ?_⟩
  exact ((((Below.refl _ w).alloc (Nat.le_refl _) _).alloc (by simp) _).alloc (by simp; omega) _).alloc (by simp; omega) _

set_option maxHeartbeats 400000 in
theorem value_2z (ao : Option Addr) (c : Nat) (a0 a1 : Int) (w : World) :
    Calls Try.prog 5 #[.agg #[.slice ao 2 c, .int .u64 0], .agg #[.int .u64 a0, .int .u64 a1]] w fun e w' => e = .returned (.agg #[.int .u64 a0, .int .u64 a1]) ∧ Below w.heap.size w w' := by
  go_enter Try.func5, Try.ntmps5
  go_wp2
  refine wp_loop_rounds 3 ?_
  rw [rounds_succ]
  go_wp2
  rw [rounds_succ]
  go_wp2
  rw [rounds_succ]
  go_wp2
  refine bodyPost_ret (v := .agg #[.int .u64 a0, .int .u64 a1]) (by simp [results, Try.results5, go_sem]) rfl ⟨rfl, ?_⟩
  exact ((((Below.refl _ w).alloc (Nat.le_refl _) _).alloc (by simp) _).alloc (by simp; omega) _).alloc (by simp; omega) _

set_option maxHeartbeats 400000 in
theorem value_2m (ao : Option Addr) (c : Nat) (mask : Int) (a0 a1 : Int) (h : (mask != 0) = true) (w : World) :
    Calls Try.prog 5 #[.agg #[.slice ao 2 c, .int .u64 mask], .agg #[.int .u64 a0, .int .u64 a1]] w fun e w' => e = .returned (.agg #[.int .u64 (bits .and .u64 a0 mask), .int .u64 a1]) ∧ Below w.heap.size w w' := by
  go_enter Try.func5, Try.ntmps5
  go_wp2
  refine wp_loop_rounds 3 ?_
  rw [rounds_succ]
  go_wp2
  rw [rounds_succ]
  go_wp2
  rw [rounds_succ]
  go_wp2
  refine bodyPost_ret (v := .agg #[.int .u64 (bits .and .u64 a0 mask), .int .u64 a1]) (by simp [results, Try.results5, go_sem]) rfl ⟨rfl, ?_⟩
  exact ((((Below.refl _ w).alloc (Nat.le_refl _) _).alloc (by simp) _).alloc (by simp; omega) _).alloc (by simp; omega) _

end Go.Proofs.Qxb6627526a
