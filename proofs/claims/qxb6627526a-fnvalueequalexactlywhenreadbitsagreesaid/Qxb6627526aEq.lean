/-
  Seat b6627526a: FnValueEqualExactlyWhenReadBitsAgree (3): the walk, a theorem a case of the length, the mask and the outcome of the tests.
-/
import Derived.Test.Qxb6627526aVal
import Derived.ChangeKeysEq
import Derived.Deep.QuietTactic
import Derived.BigQuiet
namespace Go.Proofs.Qxb6627526a
open Go.RowKit

theorem Try.info23 : (Try.prog.info? 23).map (fun i => (i.zero, i.size, i.bytes)) = some (some (.int .u64 0), 1, 8) := by kernel_rfl
theorem Try.cells23 : Try.prog.cellsOf 23 = 1 := by kernel_rfl
theorem eql28 (x0 x1 y0 y1 : Int) (w : World) : (binOp .eql 28 (.agg #[.int .u64 x0, .int .u64 x1]) (.agg #[.int .u64 y0, .int .u64 y1])).run Try.prog w = .ok (.bool (x0 == y0 && x1 == y1)) w := by
  obtain ⟨i, hi, _⟩ := info_parts Try.info23
  rw [run_eql_struct, run_equalIn_array (P := Try.prog) w 9999 (t := 28) (e := 23) (n := 2) #[.int .u64 x0, .int .u64 x1] #[.int .u64 y0, .int .u64 y1] Try.underlying28 hi, Try.cells23, show List.range 2 = [0, 1] from rfl]
  have e := fun (a b : Int) => run_equalIn_int (P := Try.prog) w 9998 23 .u64 .u64 a b Try.underlying23
  simp [Op.eqItems, part, e]
  by_cases h0 : x0 = y0 <;> by_cases h1 : x1 = y1 <;> simp [h0, h1]

set_option maxHeartbeats 400000 in
theorem bytes4 (ao : Option Addr) (n c : Nat) (mask a0 a1 b0 b1 : Int) (hn : n ≤ 1048576) (w : World) :
    Calls Try.prog 4 #[.slice ao n c, .int .u64 mask, .agg #[.int .u64 a0, .int .u64 a1], .agg #[.int .u64 b0, .int .u64 b1]] w fun e w' => e = .returned (.bool true) ∧ Below w.heap.size w w' := by
  go_enter Try.func4, Try.ntmps4
  go_wp2
  go_ret
  exact ⟨rfl, by repeat (first | exact Below.refl _ _ | (refine Below.alloc ?_ (by simp; try omega) _))⟩

/-- a block of two cells -/
def Two (w : World) (h : Nat) (v0 v1 : Value) (t : TypeId) : Prop := w.heap[h]? = some (.cells #[v0, v1] t)
theorem Two.c0 {w : World} {h : Nat} {v0 v1 : Value} {t : TypeId} (k : Two w h v0 v1 t) : w.cell? ⟨h, 0, none⟩ = some v0 := by unfold Two at k; simp [World.cell?, k]
theorem Two.c1 {w : World} {h : Nat} {v0 v1 : Value} {t : TypeId} (k : Two w h v0 v1 t) : w.cell? ⟨h, 1, none⟩ = some v1 := by unfold Two at k; simp [World.cell?, k]
theorem Two.lt {w : World} {h : Nat} {v0 v1 : Value} {t : TypeId} (k : Two w h v0 v1 t) : h < w.heap.size := (Array.getElem?_eq_some_iff.1 k).1
theorem Two.new (w : World) (v0 v1 : Value) (t : TypeId) : Two (w.alloc (.cells #[v0, v1] t)) w.heap.size v0 v1 t := heap_alloc_new _ _
theorem Two.keep {w w' : World} {h B : Nat} {v0 v1 : Value} {t : TypeId} (k : Two w h v0 v1 t) (hb : Below B w w') (hB : h < B) : Two w' h v0 v1 t := (hb.block h hB).trans k
theorem Two.drewN {w : World} {h : Nat} {v0 v1 : Value} {t : TypeId} (k : Two w h v0 v1 t) (n : Nat) : Two (w.drewN n) h v0 v1 t := k
theorem Two.alloc {w : World} {h : Nat} {v0 v1 : Value} {t : TypeId} (k : Two w h v0 v1 t) (o : Obj) : Two (w.alloc o) h v0 v1 t := k.keep ((Below.refl _ w).alloc (Nat.le_refl _) o) k.lt

set_option maxRecDepth 100000 in
set_option maxHeartbeats 1000000 in
theorem eq_0z (ao : Option Addr) (c : Nat) (a0 a1 b0 b1 : Int) (w : World) :
    Calls Try.prog 3 #[.slice ao 0 c, .int .u64 0, .agg #[.int .u64 a0, .int .u64 a1], .agg #[.int .u64 b0, .int .u64 b1]] w fun e w' => e = .returned (.bool true) ∧ Below w.heap.size w w' := by
  have q := eql28
  go_enter Try.func3, Try.ntmps3
  go_wp2_with fail
  refine (bytes4 ao 0 c 0 a0 a1 b0 b1 (by omega) _).mono ?_
  rintro e w1 ⟨rfl, hb1⟩
  simp only [World.size_alloc] at hb1
  have kA : Two w1 w.heap.size (.int .u64 a0) (.int .u64 a1) 24 := ((Two.new w _ _ _).alloc _).keep hb1 (by omega)
  have kB : Two w1 (w.heap.size + 1) (.int .u64 b0) (.int .u64 b1) 24 := by
    have := Two.new (w.alloc (.cells #[.int .u64 a0, .int .u64 a1] 24)) (.int .u64 b0) (.int .u64 b1) 24
    rw [World.size_alloc] at this
    exact this.keep hb1 (by omega)
  have B1 : Below w.heap.size w w1 := (((Below.refl _ w).alloc (Nat.le_refl _) _).alloc (by simp) _).trans (hb1.mono (by omega))
  have zA := kA.lt
  have zB := kB.lt
  have cA0 := kA.c0
  have cA1 := kA.c1
  clear hb1
  go_wp2_with fail
  refine (value_0z ao c a0 a1 _).mono ?_
  rintro e w2 ⟨rfl, hb2⟩
  have kO := (Two.new w1 (.slice ao 0 c) (.int .u64 0) 27).keep hb2 (by simp)
  have kA := (kA.alloc _).keep hb2 (by simp; omega)
  have kB := (kB.alloc _).keep hb2 (by simp; omega)
  have B2 : Below w.heap.size w w2 := (B1.alloc (by omega) _).trans (hb2.mono (by simp; omega))
  have zO := kO.lt
  have zA2 := kA.lt
  have zB2 := kB.lt
  have cO0 := kO.c0
  have cO1 := kO.c1
  have cB0 := kB.c0
  have cB1 := kB.c1
  clear hb2 cA0 cA1
  go_wp2_with fail
  refine (value_0z ao c b0 b1 _).mono ?_
  rintro e w3 ⟨rfl, hb3⟩
  have kP := (Two.new w2 (.int .u64 0) (.int .u64 0) 28).keep hb3 (by simp)
  have kO := (kO.alloc _).keep hb3 (by simp; omega)
  have kA := (kA.alloc _).keep hb3 (by simp; omega)
  have kB := (kB.alloc _).keep hb3 (by simp; omega)
  have B3 : Below w.heap.size w w3 := (B2.alloc (by omega) _).trans (hb3.mono (by simp; omega))
  have zP := kP.lt
  have zA3 := kA.lt
  have zB3 := kB.lt
  have zO3 := kO.lt
  clear hb3 cO0 cO1 cB0 cB1
  have cP0 := kP.c0
  have cP1 := kP.c1
  have cO0 := kO.c0
  have cO1 := kO.c1
  have cA0 := kA.c0
  have cA1 := kA.c1
  have cB0 := kB.c0
  have cB1 := kB.c1
  go_wp2
  refine wp_loop_rounds 1 ?_
  rw [rounds_succ]
  go_wp2_with fail
  refine (value_0z ao c 0 0 _).mono ?_
  rintro e w4 ⟨rfl, hb4⟩
  have kV : Two (w3.alloc (.cells #[.int .u64 0, .int .u64 0] 28)) w3.heap.size (.int .u64 0) (.int .u64 0) 28 := Two.new _ _ _ _
  have kP4 : Two w4 w2.heap.size (.int .u64 0) (.int .u64 0) 28 := Two.keep (kP.alloc _) hb4 (by simp; omega)
  have kV4 : Two w4 w3.heap.size (.int .u64 0) (.int .u64 0) 28 := Two.keep (kV) hb4 (by simp)
  have B4 : Below w.heap.size w w4 := ((B3.alloc (by omega) _)).trans (hb4.mono (by simp; omega))
  have d0 := kP4.c0
  have d1 := kP4.c1
  have d2 := kV4.c0
  have d3 := kV4.c1
  have y1 := kP4.lt
  have y2 := kV4.lt
  clear hb4 kP kP4 kV kV4 kA kB kO cP0 cP1 cO0 cO1 cA0 cA1 cB0 cB1
  go_wp2
  go_ret
  exact ⟨rfl, B4.alloc (by omega) _⟩

set_option maxRecDepth 100000 in
set_option maxHeartbeats 1000000 in
theorem eq_0m (ao : Option Addr) (c : Nat) (mask : Int) (a0 a1 b0 b1 : Int) (h : (mask != 0) = true) (w : World) :
    Calls Try.prog 3 #[.slice ao 0 c, .int .u64 mask, .agg #[.int .u64 a0, .int .u64 a1], .agg #[.int .u64 b0, .int .u64 b1]] w fun e w' => e = .returned (.bool true) ∧ Below w.heap.size w w' := by
  have q := eql28
  go_enter Try.func3, Try.ntmps3
  go_wp2_with fail
  refine (bytes4 ao 0 c mask a0 a1 b0 b1 (by omega) _).mono ?_
  rintro e w1 ⟨rfl, hb1⟩
  simp only [World.size_alloc] at hb1
  have kA : Two w1 w.heap.size (.int .u64 a0) (.int .u64 a1) 24 := ((Two.new w _ _ _).alloc _).keep hb1 (by omega)
  have kB : Two w1 (w.heap.size + 1) (.int .u64 b0) (.int .u64 b1) 24 := by
    have := Two.new (w.alloc (.cells #[.int .u64 a0, .int .u64 a1] 24)) (.int .u64 b0) (.int .u64 b1) 24
    rw [World.size_alloc] at this
    exact this.keep hb1 (by omega)
  have B1 : Below w.heap.size w w1 := (((Below.refl _ w).alloc (Nat.le_refl _) _).alloc (by simp) _).trans (hb1.mono (by omega))
  have zA := kA.lt
  have zB := kB.lt
  have cA0 := kA.c0
  have cA1 := kA.c1
  clear hb1
  go_wp2_with fail
  refine (value_0m ao c mask a0 a1 h _).mono ?_
  rintro e w2 ⟨rfl, hb2⟩
  have kO := (Two.new w1 (.slice ao 0 c) (.int .u64 mask) 27).keep hb2 (by simp)
  have kA := (kA.alloc _).keep hb2 (by simp; omega)
  have kB := (kB.alloc _).keep hb2 (by simp; omega)
  have B2 : Below w.heap.size w w2 := (B1.alloc (by omega) _).trans (hb2.mono (by simp; omega))
  have zO := kO.lt
  have zA2 := kA.lt
  have zB2 := kB.lt
  have cO0 := kO.c0
  have cO1 := kO.c1
  have cB0 := kB.c0
  have cB1 := kB.c1
  clear hb2 cA0 cA1
  go_wp2_with fail
  refine (value_0m ao c mask b0 b1 h _).mono ?_
  rintro e w3 ⟨rfl, hb3⟩
  have kP := (Two.new w2 (.int .u64 0) (.int .u64 0) 28).keep hb3 (by simp)
  have kO := (kO.alloc _).keep hb3 (by simp; omega)
  have kA := (kA.alloc _).keep hb3 (by simp; omega)
  have kB := (kB.alloc _).keep hb3 (by simp; omega)
  have B3 : Below w.heap.size w w3 := (B2.alloc (by omega) _).trans (hb3.mono (by simp; omega))
  have zP := kP.lt
  have zA3 := kA.lt
  have zB3 := kB.lt
  have zO3 := kO.lt
  clear hb3 cO0 cO1 cB0 cB1
  have cP0 := kP.c0
  have cP1 := kP.c1
  have cO0 := kO.c0
  have cO1 := kO.c1
  have cA0 := kA.c0
  have cA1 := kA.c1
  have cB0 := kB.c0
  have cB1 := kB.c1
  go_wp2
  refine wp_loop_rounds 1 ?_
  rw [rounds_succ]
  go_wp2_with fail
  refine (value_0m ao c mask 0 0 h _).mono ?_
  rintro e w4 ⟨rfl, hb4⟩
  have kV : Two (w3.alloc (.cells #[.int .u64 0, .int .u64 0] 28)) w3.heap.size (.int .u64 0) (.int .u64 0) 28 := Two.new _ _ _ _
  have kP4 : Two w4 w2.heap.size (.int .u64 0) (.int .u64 0) 28 := Two.keep (kP.alloc _) hb4 (by simp; omega)
  have kV4 : Two w4 w3.heap.size (.int .u64 0) (.int .u64 0) 28 := Two.keep (kV) hb4 (by simp)
  have B4 : Below w.heap.size w w4 := ((B3.alloc (by omega) _)).trans (hb4.mono (by simp; omega))
  have d0 := kP4.c0
  have d1 := kP4.c1
  have d2 := kV4.c0
  have d3 := kV4.c1
  have y1 := kP4.lt
  have y2 := kV4.lt
  clear hb4 kP kP4 kV kV4 kA kB kO cP0 cP1 cO0 cO1 cA0 cA1 cB0 cB1
  go_wp2
  go_ret
  exact ⟨rfl, B4.alloc (by omega) _⟩

set_option maxRecDepth 100000 in
set_option maxHeartbeats 1000000 in
theorem eq_1zf (ao : Option Addr) (c : Nat) (a0 a1 b0 b1 : Int) (t0 : (bits .and .u64 (bits .xor .u64 a0 b0) 18446744073709551615 != 0) = false) (f0 : (a0 == b0) = true) (w : World) :
    Calls Try.prog 3 #[.slice ao 1 c, .int .u64 0, .agg #[.int .u64 a0, .int .u64 a1], .agg #[.int .u64 b0, .int .u64 b1]] w fun e w' => e = .returned (.bool true) ∧ Below w.heap.size w w' := by
  have q := eql28
  go_enter Try.func3, Try.ntmps3
  go_wp2_with fail
  refine (bytes4 ao 1 c 0 a0 a1 b0 b1 (by omega) _).mono ?_
  rintro e w1 ⟨rfl, hb1⟩
  simp only [World.size_alloc] at hb1
  have kA : Two w1 w.heap.size (.int .u64 a0) (.int .u64 a1) 24 := ((Two.new w _ _ _).alloc _).keep hb1 (by omega)
  have kB : Two w1 (w.heap.size + 1) (.int .u64 b0) (.int .u64 b1) 24 := by
    have := Two.new (w.alloc (.cells #[.int .u64 a0, .int .u64 a1] 24)) (.int .u64 b0) (.int .u64 b1) 24
    rw [World.size_alloc] at this
    exact this.keep hb1 (by omega)
  have B1 : Below w.heap.size w w1 := (((Below.refl _ w).alloc (Nat.le_refl _) _).alloc (by simp) _).trans (hb1.mono (by omega))
  have zA := kA.lt
  have zB := kB.lt
  have cA0 := kA.c0
  have cA1 := kA.c1
  clear hb1
  go_wp2_with fail
  refine (value_1z ao c a0 a1 _).mono ?_
  rintro e w2 ⟨rfl, hb2⟩
  have kO := (Two.new w1 (.slice ao 1 c) (.int .u64 0) 27).keep hb2 (by simp)
  have kA := (kA.alloc _).keep hb2 (by simp; omega)
  have kB := (kB.alloc _).keep hb2 (by simp; omega)
  have B2 : Below w.heap.size w w2 := (B1.alloc (by omega) _).trans (hb2.mono (by simp; omega))
  have zO := kO.lt
  have zA2 := kA.lt
  have zB2 := kB.lt
  have cO0 := kO.c0
  have cO1 := kO.c1
  have cB0 := kB.c0
  have cB1 := kB.c1
  clear hb2 cA0 cA1
  go_wp2_with fail
  refine (value_1z ao c b0 b1 _).mono ?_
  rintro e w3 ⟨rfl, hb3⟩
  have kP := (Two.new w2 (.int .u64 a0) (.int .u64 0) 28).keep hb3 (by simp)
  have kO := (kO.alloc _).keep hb3 (by simp; omega)
  have kA := (kA.alloc _).keep hb3 (by simp; omega)
  have kB := (kB.alloc _).keep hb3 (by simp; omega)
  have B3 : Below w.heap.size w w3 := (B2.alloc (by omega) _).trans (hb3.mono (by simp; omega))
  have zP := kP.lt
  have zA3 := kA.lt
  have zB3 := kB.lt
  have zO3 := kO.lt
  clear hb3 cO0 cO1 cB0 cB1
  have cP0 := kP.c0
  have cP1 := kP.c1
  have cO0 := kO.c0
  have cO1 := kO.c1
  have cA0 := kA.c0
  have cA1 := kA.c1
  have cB0 := kB.c0
  have cB1 := kB.c1
  go_wp2
  refine wp_loop_rounds 2 ?_
  rw [rounds_succ]
  go_wp2
  go_quiet ((go_at_call 6; exact Calls.quiet_of_same (mask_no _)))
  go_wp2
  have kV : Two (w3.alloc (.cells #[.int .u64 b0, .int .u64 0] 28)) w3.heap.size (.int .u64 b0) (.int .u64 0) 28 := Two.new _ _ _ _
  obtain ⟨W', hW'⟩ : ∃ W', W' = (w3.alloc (.cells #[.int .u64 b0, .int .u64 0] 28)).drewN nq := ⟨_, rfl⟩
  rw [← hW']
  have zW : W'.heap.size = w3.heap.size + 1 := by rw [hW']; simp
  have kV := Two.drewN kV nq
  have kP := Two.drewN (kP.alloc (.cells #[.int .u64 b0, .int .u64 0] 28)) nq
  have kO := Two.drewN (kO.alloc (.cells #[.int .u64 b0, .int .u64 0] 28)) nq
  have kA := Two.drewN (kA.alloc (.cells #[.int .u64 b0, .int .u64 0] 28)) nq
  have kB := Two.drewN (kB.alloc (.cells #[.int .u64 b0, .int .u64 0] 28)) nq
  have B3 := below_drewN (B3.alloc (by omega) (.cells #[.int .u64 b0, .int .u64 0] 28)) nq
  rw [← hW'] at kV kP kO kA kB B3
  clear cP0 cP1 cO0 cO1 cA0 cA1 cB0 cB1 hW' t0
  have zW1 : w3.heap.size < W'.heap.size := by omega
  have HW : Hid (W'.heap.size = w3.heap.size + 1) := zW
  clear zW
  have cP0 := kP.c0
  have cP1 := kP.c1
  have cO0 := kO.c0
  have cO1 := kO.c1
  have cA0 := kA.c0
  have cA1 := kA.c1
  have cB0 := kB.c0
  have cB1 := kB.c1
  rw [rounds_succ]
  go_wp2_with fail
  refine (value_1z ao c a0 0 _).mono ?_
  rintro e w4 ⟨rfl, hb4⟩
  have kP4 : Two w4 w2.heap.size (.int .u64 a0) (.int .u64 0) 28 := Two.keep (kP) hb4 (by have := HW.out; omega)
  have kV4 : Two w4 w3.heap.size (.int .u64 b0) (.int .u64 0) 28 := Two.keep (kV) hb4 (by have := HW.out; omega)
  have B4 : Below w.heap.size w w4 := (B3).trans (hb4.mono (by have := HW.out; omega))
  have d0 := kP4.c0
  have d1 := kP4.c1
  have d2 := kV4.c0
  have d3 := kV4.c1
  have y1 := kP4.lt
  have y2 := kV4.lt
  clear hb4 kP kP4 kV kV4 kA kB kO cP0 cP1 cO0 cO1 cA0 cA1 cB0 cB1
  go_wp2
  go_ret
  exact ⟨rfl, B4.alloc (by omega) _⟩

set_option maxRecDepth 100000 in
set_option maxHeartbeats 1000000 in
theorem eq_1zt (ao : Option Addr) (c : Nat) (a0 a1 b0 b1 : Int) (t0 : (bits .and .u64 (bits .xor .u64 a0 b0) 18446744073709551615 != 0) = true) (f0 : (a0 == b0) = false) (w : World) :
    Calls Try.prog 3 #[.slice ao 1 c, .int .u64 0, .agg #[.int .u64 a0, .int .u64 a1], .agg #[.int .u64 b0, .int .u64 b1]] w fun e w' => e = .returned (.bool true) ∧ Below w.heap.size w w' := by
  have q := eql28
  go_enter Try.func3, Try.ntmps3
  go_wp2_with fail
  refine (bytes4 ao 1 c 0 a0 a1 b0 b1 (by omega) _).mono ?_
  rintro e w1 ⟨rfl, hb1⟩
  simp only [World.size_alloc] at hb1
  have kA : Two w1 w.heap.size (.int .u64 a0) (.int .u64 a1) 24 := ((Two.new w _ _ _).alloc _).keep hb1 (by omega)
  have kB : Two w1 (w.heap.size + 1) (.int .u64 b0) (.int .u64 b1) 24 := by
    have := Two.new (w.alloc (.cells #[.int .u64 a0, .int .u64 a1] 24)) (.int .u64 b0) (.int .u64 b1) 24
    rw [World.size_alloc] at this
    exact this.keep hb1 (by omega)
  have B1 : Below w.heap.size w w1 := (((Below.refl _ w).alloc (Nat.le_refl _) _).alloc (by simp) _).trans (hb1.mono (by omega))
  have zA := kA.lt
  have zB := kB.lt
  have cA0 := kA.c0
  have cA1 := kA.c1
  clear hb1
  go_wp2_with fail
  refine (value_1z ao c a0 a1 _).mono ?_
  rintro e w2 ⟨rfl, hb2⟩
  have kO := (Two.new w1 (.slice ao 1 c) (.int .u64 0) 27).keep hb2 (by simp)
  have kA := (kA.alloc _).keep hb2 (by simp; omega)
  have kB := (kB.alloc _).keep hb2 (by simp; omega)
  have B2 : Below w.heap.size w w2 := (B1.alloc (by omega) _).trans (hb2.mono (by simp; omega))
  have zO := kO.lt
  have zA2 := kA.lt
  have zB2 := kB.lt
  have cO0 := kO.c0
  have cO1 := kO.c1
  have cB0 := kB.c0
  have cB1 := kB.c1
  clear hb2 cA0 cA1
  go_wp2_with fail
  refine (value_1z ao c b0 b1 _).mono ?_
  rintro e w3 ⟨rfl, hb3⟩
  have kP := (Two.new w2 (.int .u64 a0) (.int .u64 0) 28).keep hb3 (by simp)
  have kO := (kO.alloc _).keep hb3 (by simp; omega)
  have kA := (kA.alloc _).keep hb3 (by simp; omega)
  have kB := (kB.alloc _).keep hb3 (by simp; omega)
  have B3 : Below w.heap.size w w3 := (B2.alloc (by omega) _).trans (hb3.mono (by simp; omega))
  have zP := kP.lt
  have zA3 := kA.lt
  have zB3 := kB.lt
  have zO3 := kO.lt
  clear hb3 cO0 cO1 cB0 cB1
  have cP0 := kP.c0
  have cP1 := kP.c1
  have cO0 := kO.c0
  have cO1 := kO.c1
  have cA0 := kA.c0
  have cA1 := kA.c1
  have cB0 := kB.c0
  have cB1 := kB.c1
  go_wp2
  refine wp_loop_rounds 2 ?_
  rw [rounds_succ]
  go_wp2
  go_quiet ((go_at_call 6; exact Calls.quiet_of_same (mask_no _)))
  go_wp2
  have kV : Two (w3.alloc (.cells #[.int .u64 b0, .int .u64 0] 28)) w3.heap.size (.int .u64 b0) (.int .u64 0) 28 := Two.new _ _ _ _
  obtain ⟨W', hW'⟩ : ∃ W', W' = (w3.alloc (.cells #[.int .u64 b0, .int .u64 0] 28)).drewN nq := ⟨_, rfl⟩
  rw [← hW']
  have zW : W'.heap.size = w3.heap.size + 1 := by rw [hW']; simp
  have kV := Two.drewN kV nq
  have kP := Two.drewN (kP.alloc (.cells #[.int .u64 b0, .int .u64 0] 28)) nq
  have kO := Two.drewN (kO.alloc (.cells #[.int .u64 b0, .int .u64 0] 28)) nq
  have kA := Two.drewN (kA.alloc (.cells #[.int .u64 b0, .int .u64 0] 28)) nq
  have kB := Two.drewN (kB.alloc (.cells #[.int .u64 b0, .int .u64 0] 28)) nq
  have B3 := below_drewN (B3.alloc (by omega) (.cells #[.int .u64 b0, .int .u64 0] 28)) nq
  rw [← hW'] at kV kP kO kA kB B3
  clear cP0 cP1 cO0 cO1 cA0 cA1 cB0 cB1 hW' t0
  have zW1 : w3.heap.size < W'.heap.size := by omega
  have HW : Hid (W'.heap.size = w3.heap.size + 1) := zW
  clear zW
  have cP0 := kP.c0
  have cP1 := kP.c1
  have cO0 := kO.c0
  have cO1 := kO.c1
  have cA0 := kA.c0
  have cA1 := kA.c1
  have cB0 := kB.c0
  have cB1 := kB.c1
  rw [rounds_succ]
  go_wp2_with fail
  refine (value_1z ao c a0 0 _).mono ?_
  rintro e w4 ⟨rfl, hb4⟩
  have kP4 : Two w4 w2.heap.size (.int .u64 a0) (.int .u64 0) 28 := Two.keep (kP) hb4 (by have := HW.out; omega)
  have kV4 : Two w4 w3.heap.size (.int .u64 b0) (.int .u64 0) 28 := Two.keep (kV) hb4 (by have := HW.out; omega)
  have B4 : Below w.heap.size w w4 := (B3).trans (hb4.mono (by have := HW.out; omega))
  have d0 := kP4.c0
  have d1 := kP4.c1
  have d2 := kV4.c0
  have d3 := kV4.c1
  have y1 := kP4.lt
  have y2 := kV4.lt
  clear hb4 kP kP4 kV kV4 kA kB kO cP0 cP1 cO0 cO1 cA0 cA1 cB0 cB1
  go_wp2
  go_ret
  exact ⟨rfl, B4.alloc (by omega) _⟩

set_option maxRecDepth 100000 in
set_option maxHeartbeats 1000000 in
theorem eq_1mf (ao : Option Addr) (c : Nat) (mask : Int) (a0 a1 b0 b1 : Int) (h : (mask != 0) = true) (t0 : (bits .and .u64 (bits .xor .u64 a0 b0) mask != 0) = false) (f0 : ((bits .and .u64 a0 mask) == (bits .and .u64 b0 mask)) = true) (i0 : bits .and .u64 (bits .and .u64 a0 mask) mask = bits .and .u64 a0 mask) (w : World) :
    Calls Try.prog 3 #[.slice ao 1 c, .int .u64 mask, .agg #[.int .u64 a0, .int .u64 a1], .agg #[.int .u64 b0, .int .u64 b1]] w fun e w' => e = .returned (.bool true) ∧ Below w.heap.size w w' := by
  have q := eql28
  go_enter Try.func3, Try.ntmps3
  go_wp2_with fail
  refine (bytes4 ao 1 c mask a0 a1 b0 b1 (by omega) _).mono ?_
  rintro e w1 ⟨rfl, hb1⟩
  simp only [World.size_alloc] at hb1
  have kA : Two w1 w.heap.size (.int .u64 a0) (.int .u64 a1) 24 := ((Two.new w _ _ _).alloc _).keep hb1 (by omega)
  have kB : Two w1 (w.heap.size + 1) (.int .u64 b0) (.int .u64 b1) 24 := by
    have := Two.new (w.alloc (.cells #[.int .u64 a0, .int .u64 a1] 24)) (.int .u64 b0) (.int .u64 b1) 24
    rw [World.size_alloc] at this
    exact this.keep hb1 (by omega)
  have B1 : Below w.heap.size w w1 := (((Below.refl _ w).alloc (Nat.le_refl _) _).alloc (by simp) _).trans (hb1.mono (by omega))
  have zA := kA.lt
  have zB := kB.lt
  have cA0 := kA.c0
  have cA1 := kA.c1
  clear hb1
  go_wp2_with fail
  refine (value_1m ao c mask a0 a1 h _).mono ?_
  rintro e w2 ⟨rfl, hb2⟩
  have kO := (Two.new w1 (.slice ao 1 c) (.int .u64 mask) 27).keep hb2 (by simp)
  have kA := (kA.alloc _).keep hb2 (by simp; omega)
  have kB := (kB.alloc _).keep hb2 (by simp; omega)
  have B2 : Below w.heap.size w w2 := (B1.alloc (by omega) _).trans (hb2.mono (by simp; omega))
  have zO := kO.lt
  have zA2 := kA.lt
  have zB2 := kB.lt
  have cO0 := kO.c0
  have cO1 := kO.c1
  have cB0 := kB.c0
  have cB1 := kB.c1
  clear hb2 cA0 cA1
  go_wp2_with fail
  refine (value_1m ao c mask b0 b1 h _).mono ?_
  rintro e w3 ⟨rfl, hb3⟩
  have kP := (Two.new w2 (.int .u64 (bits .and .u64 a0 mask)) (.int .u64 0) 28).keep hb3 (by simp)
  have kO := (kO.alloc _).keep hb3 (by simp; omega)
  have kA := (kA.alloc _).keep hb3 (by simp; omega)
  have kB := (kB.alloc _).keep hb3 (by simp; omega)
  have B3 : Below w.heap.size w w3 := (B2.alloc (by omega) _).trans (hb3.mono (by simp; omega))
  have zP := kP.lt
  have zA3 := kA.lt
  have zB3 := kB.lt
  have zO3 := kO.lt
  clear hb3 cO0 cO1 cB0 cB1
  have cP0 := kP.c0
  have cP1 := kP.c1
  have cO0 := kO.c0
  have cO1 := kO.c1
  have cA0 := kA.c0
  have cA1 := kA.c1
  have cB0 := kB.c0
  have cB1 := kB.c1
  go_wp2
  refine wp_loop_rounds 2 ?_
  rw [rounds_succ]
  go_wp2
  go_quiet ((go_at_call 6; exact Calls.quiet_of_same (mask_yes mask h _)))
  go_wp2
  have kV : Two (w3.alloc (.cells #[.int .u64 (bits .and .u64 b0 mask), .int .u64 0] 28)) w3.heap.size (.int .u64 (bits .and .u64 b0 mask)) (.int .u64 0) 28 := Two.new _ _ _ _
  obtain ⟨W', hW'⟩ : ∃ W', W' = (w3.alloc (.cells #[.int .u64 (bits .and .u64 b0 mask), .int .u64 0] 28)).drewN nq := ⟨_, rfl⟩
  rw [← hW']
  have zW : W'.heap.size = w3.heap.size + 1 := by rw [hW']; simp
  have kV := Two.drewN kV nq
  have kP := Two.drewN (kP.alloc (.cells #[.int .u64 (bits .and .u64 b0 mask), .int .u64 0] 28)) nq
  have kO := Two.drewN (kO.alloc (.cells #[.int .u64 (bits .and .u64 b0 mask), .int .u64 0] 28)) nq
  have kA := Two.drewN (kA.alloc (.cells #[.int .u64 (bits .and .u64 b0 mask), .int .u64 0] 28)) nq
  have kB := Two.drewN (kB.alloc (.cells #[.int .u64 (bits .and .u64 b0 mask), .int .u64 0] 28)) nq
  have B3 := below_drewN (B3.alloc (by omega) (.cells #[.int .u64 (bits .and .u64 b0 mask), .int .u64 0] 28)) nq
  rw [← hW'] at kV kP kO kA kB B3
  clear cP0 cP1 cO0 cO1 cA0 cA1 cB0 cB1 hW' t0
  have zW1 : w3.heap.size < W'.heap.size := by omega
  have HW : Hid (W'.heap.size = w3.heap.size + 1) := zW
  clear zW
  have cP0 := kP.c0
  have cP1 := kP.c1
  have cO0 := kO.c0
  have cO1 := kO.c1
  have cA0 := kA.c0
  have cA1 := kA.c1
  have cB0 := kB.c0
  have cB1 := kB.c1
  rw [rounds_succ]
  go_wp2_with fail
  refine (value_1m ao c mask (bits .and .u64 a0 mask) 0 h _).mono ?_
  rintro e w4 ⟨rfl, hb4⟩
  rw [i0]
  have kP4 : Two w4 w2.heap.size (.int .u64 (bits .and .u64 a0 mask)) (.int .u64 0) 28 := Two.keep (kP) hb4 (by have := HW.out; omega)
  have kV4 : Two w4 w3.heap.size (.int .u64 (bits .and .u64 b0 mask)) (.int .u64 0) 28 := Two.keep (kV) hb4 (by have := HW.out; omega)
  have B4 : Below w.heap.size w w4 := (B3).trans (hb4.mono (by have := HW.out; omega))
  have d0 := kP4.c0
  have d1 := kP4.c1
  have d2 := kV4.c0
  have d3 := kV4.c1
  have y1 := kP4.lt
  have y2 := kV4.lt
  clear hb4 kP kP4 kV kV4 kA kB kO cP0 cP1 cO0 cO1 cA0 cA1 cB0 cB1
  go_wp2
  go_ret
  exact ⟨rfl, B4.alloc (by omega) _⟩

set_option maxRecDepth 100000 in
set_option maxHeartbeats 1000000 in
theorem eq_1mt (ao : Option Addr) (c : Nat) (mask : Int) (a0 a1 b0 b1 : Int) (h : (mask != 0) = true) (t0 : (bits .and .u64 (bits .xor .u64 a0 b0) mask != 0) = true) (f0 : ((bits .and .u64 a0 mask) == (bits .and .u64 b0 mask)) = false) (i0 : bits .and .u64 (bits .and .u64 a0 mask) mask = bits .and .u64 a0 mask) (w : World) :
    Calls Try.prog 3 #[.slice ao 1 c, .int .u64 mask, .agg #[.int .u64 a0, .int .u64 a1], .agg #[.int .u64 b0, .int .u64 b1]] w fun e w' => e = .returned (.bool true) ∧ Below w.heap.size w w' := by
  have q := eql28
  go_enter Try.func3, Try.ntmps3
  go_wp2_with fail
  refine (bytes4 ao 1 c mask a0 a1 b0 b1 (by omega) _).mono ?_
  rintro e w1 ⟨rfl, hb1⟩
  simp only [World.size_alloc] at hb1
  have kA : Two w1 w.heap.size (.int .u64 a0) (.int .u64 a1) 24 := ((Two.new w _ _ _).alloc _).keep hb1 (by omega)
  have kB : Two w1 (w.heap.size + 1) (.int .u64 b0) (.int .u64 b1) 24 := by
    have := Two.new (w.alloc (.cells #[.int .u64 a0, .int .u64 a1] 24)) (.int .u64 b0) (.int .u64 b1) 24
    rw [World.size_alloc] at this
    exact this.keep hb1 (by omega)
  have B1 : Below w.heap.size w w1 := (((Below.refl _ w).alloc (Nat.le_refl _) _).alloc (by simp) _).trans (hb1.mono (by omega))
  have zA := kA.lt
  have zB := kB.lt
  have cA0 := kA.c0
  have cA1 := kA.c1
  clear hb1
  go_wp2_with fail
  refine (value_1m ao c mask a0 a1 h _).mono ?_
  rintro e w2 ⟨rfl, hb2⟩
  have kO := (Two.new w1 (.slice ao 1 c) (.int .u64 mask) 27).keep hb2 (by simp)
  have kA := (kA.alloc _).keep hb2 (by simp; omega)
  have kB := (kB.alloc _).keep hb2 (by simp; omega)
  have B2 : Below w.heap.size w w2 := (B1.alloc (by omega) _).trans (hb2.mono (by simp; omega))
  have zO := kO.lt
  have zA2 := kA.lt
  have zB2 := kB.lt
  have cO0 := kO.c0
  have cO1 := kO.c1
  have cB0 := kB.c0
  have cB1 := kB.c1
  clear hb2 cA0 cA1
  go_wp2_with fail
  refine (value_1m ao c mask b0 b1 h _).mono ?_
  rintro e w3 ⟨rfl, hb3⟩
  have kP := (Two.new w2 (.int .u64 (bits .and .u64 a0 mask)) (.int .u64 0) 28).keep hb3 (by simp)
  have kO := (kO.alloc _).keep hb3 (by simp; omega)
  have kA := (kA.alloc _).keep hb3 (by simp; omega)
  have kB := (kB.alloc _).keep hb3 (by simp; omega)
  have B3 : Below w.heap.size w w3 := (B2.alloc (by omega) _).trans (hb3.mono (by simp; omega))
  have zP := kP.lt
  have zA3 := kA.lt
  have zB3 := kB.lt
  have zO3 := kO.lt
  clear hb3 cO0 cO1 cB0 cB1
  have cP0 := kP.c0
  have cP1 := kP.c1
  have cO0 := kO.c0
  have cO1 := kO.c1
  have cA0 := kA.c0
  have cA1 := kA.c1
  have cB0 := kB.c0
  have cB1 := kB.c1
  go_wp2
  refine wp_loop_rounds 2 ?_
  rw [rounds_succ]
  go_wp2
  go_quiet ((go_at_call 6; exact Calls.quiet_of_same (mask_yes mask h _)))
  go_wp2
  have kV : Two (w3.alloc (.cells #[.int .u64 (bits .and .u64 b0 mask), .int .u64 0] 28)) w3.heap.size (.int .u64 (bits .and .u64 b0 mask)) (.int .u64 0) 28 := Two.new _ _ _ _
  obtain ⟨W', hW'⟩ : ∃ W', W' = (w3.alloc (.cells #[.int .u64 (bits .and .u64 b0 mask), .int .u64 0] 28)).drewN nq := ⟨_, rfl⟩
  rw [← hW']
  have zW : W'.heap.size = w3.heap.size + 1 := by rw [hW']; simp
  have kV := Two.drewN kV nq
  have kP := Two.drewN (kP.alloc (.cells #[.int .u64 (bits .and .u64 b0 mask), .int .u64 0] 28)) nq
  have kO := Two.drewN (kO.alloc (.cells #[.int .u64 (bits .and .u64 b0 mask), .int .u64 0] 28)) nq
  have kA := Two.drewN (kA.alloc (.cells #[.int .u64 (bits .and .u64 b0 mask), .int .u64 0] 28)) nq
  have kB := Two.drewN (kB.alloc (.cells #[.int .u64 (bits .and .u64 b0 mask), .int .u64 0] 28)) nq
  have B3 := below_drewN (B3.alloc (by omega) (.cells #[.int .u64 (bits .and .u64 b0 mask), .int .u64 0] 28)) nq
  rw [← hW'] at kV kP kO kA kB B3
  clear cP0 cP1 cO0 cO1 cA0 cA1 cB0 cB1 hW' t0
  have zW1 : w3.heap.size < W'.heap.size := by omega
  have HW : Hid (W'.heap.size = w3.heap.size + 1) := zW
  clear zW
  have cP0 := kP.c0
  have cP1 := kP.c1
  have cO0 := kO.c0
  have cO1 := kO.c1
  have cA0 := kA.c0
  have cA1 := kA.c1
  have cB0 := kB.c0
  have cB1 := kB.c1
  rw [rounds_succ]
  go_wp2_with fail
  refine (value_1m ao c mask (bits .and .u64 a0 mask) 0 h _).mono ?_
  rintro e w4 ⟨rfl, hb4⟩
  rw [i0]
  have kP4 : Two w4 w2.heap.size (.int .u64 (bits .and .u64 a0 mask)) (.int .u64 0) 28 := Two.keep (kP) hb4 (by have := HW.out; omega)
  have kV4 : Two w4 w3.heap.size (.int .u64 (bits .and .u64 b0 mask)) (.int .u64 0) 28 := Two.keep (kV) hb4 (by have := HW.out; omega)
  have B4 : Below w.heap.size w w4 := (B3).trans (hb4.mono (by have := HW.out; omega))
  have d0 := kP4.c0
  have d1 := kP4.c1
  have d2 := kV4.c0
  have d3 := kV4.c1
  have y1 := kP4.lt
  have y2 := kV4.lt
  clear hb4 kP kP4 kV kV4 kA kB kO cP0 cP1 cO0 cO1 cA0 cA1 cB0 cB1
  go_wp2
  go_ret
  exact ⟨rfl, B4.alloc (by omega) _⟩

set_option maxRecDepth 100000 in
set_option maxHeartbeats 1000000 in
theorem eq_2zff (ao : Option Addr) (c : Nat) (a0 a1 b0 b1 : Int) (t0 : (bits .and .u64 (bits .xor .u64 a0 b0) 18446744073709551615 != 0) = false) (f0 : (a0 == b0) = true) (t1 : (bits .and .u64 (bits .xor .u64 a1 b1) 18446744073709551615 != 0) = false) (f1 : (a1 == b1) = true) (w : World) :
    Calls Try.prog 3 #[.slice ao 2 c, .int .u64 0, .agg #[.int .u64 a0, .int .u64 a1], .agg #[.int .u64 b0, .int .u64 b1]] w fun e w' => e = .returned (.bool true) ∧ Below w.heap.size w w' := by
  have q := eql28
  go_enter Try.func3, Try.ntmps3
  go_wp2_with fail
  refine (bytes4 ao 2 c 0 a0 a1 b0 b1 (by omega) _).mono ?_
  rintro e w1 ⟨rfl, hb1⟩
  simp only [World.size_alloc] at hb1
  have kA : Two w1 w.heap.size (.int .u64 a0) (.int .u64 a1) 24 := ((Two.new w _ _ _).alloc _).keep hb1 (by omega)
  have kB : Two w1 (w.heap.size + 1) (.int .u64 b0) (.int .u64 b1) 24 := by
    have := Two.new (w.alloc (.cells #[.int .u64 a0, .int .u64 a1] 24)) (.int .u64 b0) (.int .u64 b1) 24
    rw [World.size_alloc] at this
    exact this.keep hb1 (by omega)
  have B1 : Below w.heap.size w w1 := (((Below.refl _ w).alloc (Nat.le_refl _) _).alloc (by simp) _).trans (hb1.mono (by omega))
  have zA := kA.lt
  have zB := kB.lt
  have cA0 := kA.c0
  have cA1 := kA.c1
  clear hb1
  go_wp2_with fail
  refine (value_2z ao c a0 a1 _).mono ?_
  rintro e w2 ⟨rfl, hb2⟩
  have kO := (Two.new w1 (.slice ao 2 c) (.int .u64 0) 27).keep hb2 (by simp)
  have kA := (kA.alloc _).keep hb2 (by simp; omega)
  have kB := (kB.alloc _).keep hb2 (by simp; omega)
  have B2 : Below w.heap.size w w2 := (B1.alloc (by omega) _).trans (hb2.mono (by simp; omega))
  have zO := kO.lt
  have zA2 := kA.lt
  have zB2 := kB.lt
  have cO0 := kO.c0
  have cO1 := kO.c1
  have cB0 := kB.c0
  have cB1 := kB.c1
  clear hb2 cA0 cA1
  go_wp2_with fail
  refine (value_2z ao c b0 b1 _).mono ?_
  rintro e w3 ⟨rfl, hb3⟩
  have kP := (Two.new w2 (.int .u64 a0) (.int .u64 a1) 28).keep hb3 (by simp)
  have kO := (kO.alloc _).keep hb3 (by simp; omega)
  have kA := (kA.alloc _).keep hb3 (by simp; omega)
  have kB := (kB.alloc _).keep hb3 (by simp; omega)
  have B3 : Below w.heap.size w w3 := (B2.alloc (by omega) _).trans (hb3.mono (by simp; omega))
  have zP := kP.lt
  have zA3 := kA.lt
  have zB3 := kB.lt
  have zO3 := kO.lt
  clear hb3 cO0 cO1 cB0 cB1
  have cP0 := kP.c0
  have cP1 := kP.c1
  have cO0 := kO.c0
  have cO1 := kO.c1
  have cA0 := kA.c0
  have cA1 := kA.c1
  have cB0 := kB.c0
  have cB1 := kB.c1
  go_wp2
  refine wp_loop_rounds 3 ?_
  rw [rounds_succ]
  go_wp2
  go_quiet ((go_at_call 6; exact Calls.quiet_of_same (mask_no _)))
  go_wp2
  have kV : Two (w3.alloc (.cells #[.int .u64 b0, .int .u64 b1] 28)) w3.heap.size (.int .u64 b0) (.int .u64 b1) 28 := Two.new _ _ _ _
  obtain ⟨W', hW'⟩ : ∃ W', W' = (w3.alloc (.cells #[.int .u64 b0, .int .u64 b1] 28)).drewN nq := ⟨_, rfl⟩
  rw [← hW']
  have zW : W'.heap.size = w3.heap.size + 1 := by rw [hW']; simp
  have kV := Two.drewN kV nq
  have kP := Two.drewN (kP.alloc (.cells #[.int .u64 b0, .int .u64 b1] 28)) nq
  have kO := Two.drewN (kO.alloc (.cells #[.int .u64 b0, .int .u64 b1] 28)) nq
  have kA := Two.drewN (kA.alloc (.cells #[.int .u64 b0, .int .u64 b1] 28)) nq
  have kB := Two.drewN (kB.alloc (.cells #[.int .u64 b0, .int .u64 b1] 28)) nq
  have B3 := below_drewN (B3.alloc (by omega) (.cells #[.int .u64 b0, .int .u64 b1] 28)) nq
  rw [← hW'] at kV kP kO kA kB B3
  clear cP0 cP1 cO0 cO1 cA0 cA1 cB0 cB1 hW' t0
  have zW1 : w3.heap.size < W'.heap.size := by omega
  have HW : Hid (W'.heap.size = w3.heap.size + 1) := zW
  clear zW
  have cP0 := kP.c0
  have cP1 := kP.c1
  have cO0 := kO.c0
  have cO1 := kO.c1
  have cA0 := kA.c0
  have cA1 := kA.c1
  have cB0 := kB.c0
  have cB1 := kB.c1
  rw [rounds_succ]
  go_wp2
  go_quiet ((go_at_call 6; exact Calls.quiet_of_same (mask_one 0 _)))
  go_wp2
  rw [rounds_succ]
  go_wp2_with fail
  refine (value_2z ao c a0 a1 _).mono ?_
  rintro e w4 ⟨rfl, hb4⟩
  have kP4 : Two w4 w2.heap.size (.int .u64 a0) (.int .u64 a1) 28 := Two.keep (Two.drewN (kP) _) hb4 (by have := HW.out; simp; omega)
  have kV4 : Two w4 w3.heap.size (.int .u64 b0) (.int .u64 b1) 28 := Two.keep (Two.drewN (kV) _) hb4 (by have := HW.out; simp; omega)
  have B4 : Below w.heap.size w w4 := (below_drewN B3 _).trans (hb4.mono (by have := HW.out; simp; omega))
  have d0 := kP4.c0
  have d1 := kP4.c1
  have d2 := kV4.c0
  have d3 := kV4.c1
  have y1 := kP4.lt
  have y2 := kV4.lt
  clear hb4 kP kP4 kV kV4 kA kB kO cP0 cP1 cO0 cO1 cA0 cA1 cB0 cB1
  go_wp2
  go_ret
  exact ⟨rfl, B4.alloc (by omega) _⟩

set_option maxRecDepth 100000 in
set_option maxHeartbeats 1000000 in
theorem eq_2zft (ao : Option Addr) (c : Nat) (a0 a1 b0 b1 : Int) (t0 : (bits .and .u64 (bits .xor .u64 a0 b0) 18446744073709551615 != 0) = false) (f0 : (a0 == b0) = true) (t1 : (bits .and .u64 (bits .xor .u64 a1 b1) 18446744073709551615 != 0) = true) (f1 : (a1 == b1) = false) (w : World) :
    Calls Try.prog 3 #[.slice ao 2 c, .int .u64 0, .agg #[.int .u64 a0, .int .u64 a1], .agg #[.int .u64 b0, .int .u64 b1]] w fun e w' => e = .returned (.bool true) ∧ Below w.heap.size w w' := by
  have q := eql28
  go_enter Try.func3, Try.ntmps3
  go_wp2_with fail
  refine (bytes4 ao 2 c 0 a0 a1 b0 b1 (by omega) _).mono ?_
  rintro e w1 ⟨rfl, hb1⟩
  simp only [World.size_alloc] at hb1
  have kA : Two w1 w.heap.size (.int .u64 a0) (.int .u64 a1) 24 := ((Two.new w _ _ _).alloc _).keep hb1 (by omega)
  have kB : Two w1 (w.heap.size + 1) (.int .u64 b0) (.int .u64 b1) 24 := by
    have := Two.new (w.alloc (.cells #[.int .u64 a0, .int .u64 a1] 24)) (.int .u64 b0) (.int .u64 b1) 24
    rw [World.size_alloc] at this
    exact this.keep hb1 (by omega)
  have B1 : Below w.heap.size w w1 := (((Below.refl _ w).alloc (Nat.le_refl _) _).alloc (by simp) _).trans (hb1.mono (by omega))
  have zA := kA.lt
  have zB := kB.lt
  have cA0 := kA.c0
  have cA1 := kA.c1
  clear hb1
  go_wp2_with fail
  refine (value_2z ao c a0 a1 _).mono ?_
  rintro e w2 ⟨rfl, hb2⟩
  have kO := (Two.new w1 (.slice ao 2 c) (.int .u64 0) 27).keep hb2 (by simp)
  have kA := (kA.alloc _).keep hb2 (by simp; omega)
  have kB := (kB.alloc _).keep hb2 (by simp; omega)
  have B2 : Below w.heap.size w w2 := (B1.alloc (by omega) _).trans (hb2.mono (by simp; omega))
  have zO := kO.lt
  have zA2 := kA.lt
  have zB2 := kB.lt
  have cO0 := kO.c0
  have cO1 := kO.c1
  have cB0 := kB.c0
  have cB1 := kB.c1
  clear hb2 cA0 cA1
  go_wp2_with fail
  refine (value_2z ao c b0 b1 _).mono ?_
  rintro e w3 ⟨rfl, hb3⟩
  have kP := (Two.new w2 (.int .u64 a0) (.int .u64 a1) 28).keep hb3 (by simp)
  have kO := (kO.alloc _).keep hb3 (by simp; omega)
  have kA := (kA.alloc _).keep hb3 (by simp; omega)
  have kB := (kB.alloc _).keep hb3 (by simp; omega)
  have B3 : Below w.heap.size w w3 := (B2.alloc (by omega) _).trans (hb3.mono (by simp; omega))
  have zP := kP.lt
  have zA3 := kA.lt
  have zB3 := kB.lt
  have zO3 := kO.lt
  clear hb3 cO0 cO1 cB0 cB1
  have cP0 := kP.c0
  have cP1 := kP.c1
  have cO0 := kO.c0
  have cO1 := kO.c1
  have cA0 := kA.c0
  have cA1 := kA.c1
  have cB0 := kB.c0
  have cB1 := kB.c1
  go_wp2
  refine wp_loop_rounds 3 ?_
  rw [rounds_succ]
  go_wp2
  go_quiet ((go_at_call 6; exact Calls.quiet_of_same (mask_no _)))
  go_wp2
  have kV : Two (w3.alloc (.cells #[.int .u64 b0, .int .u64 b1] 28)) w3.heap.size (.int .u64 b0) (.int .u64 b1) 28 := Two.new _ _ _ _
  obtain ⟨W', hW'⟩ : ∃ W', W' = (w3.alloc (.cells #[.int .u64 b0, .int .u64 b1] 28)).drewN nq := ⟨_, rfl⟩
  rw [← hW']
  have zW : W'.heap.size = w3.heap.size + 1 := by rw [hW']; simp
  have kV := Two.drewN kV nq
  have kP := Two.drewN (kP.alloc (.cells #[.int .u64 b0, .int .u64 b1] 28)) nq
  have kO := Two.drewN (kO.alloc (.cells #[.int .u64 b0, .int .u64 b1] 28)) nq
  have kA := Two.drewN (kA.alloc (.cells #[.int .u64 b0, .int .u64 b1] 28)) nq
  have kB := Two.drewN (kB.alloc (.cells #[.int .u64 b0, .int .u64 b1] 28)) nq
  have B3 := below_drewN (B3.alloc (by omega) (.cells #[.int .u64 b0, .int .u64 b1] 28)) nq
  rw [← hW'] at kV kP kO kA kB B3
  clear cP0 cP1 cO0 cO1 cA0 cA1 cB0 cB1 hW' t0
  have zW1 : w3.heap.size < W'.heap.size := by omega
  have HW : Hid (W'.heap.size = w3.heap.size + 1) := zW
  clear zW
  have cP0 := kP.c0
  have cP1 := kP.c1
  have cO0 := kO.c0
  have cO1 := kO.c1
  have cA0 := kA.c0
  have cA1 := kA.c1
  have cB0 := kB.c0
  have cB1 := kB.c1
  rw [rounds_succ]
  go_wp2
  go_quiet ((go_at_call 6; exact Calls.quiet_of_same (mask_one 0 _)))
  go_wp2
  rw [rounds_succ]
  go_wp2_with fail
  refine (value_2z ao c a0 a1 _).mono ?_
  rintro e w4 ⟨rfl, hb4⟩
  have kP4 : Two w4 w2.heap.size (.int .u64 a0) (.int .u64 a1) 28 := Two.keep (Two.drewN (kP) _) hb4 (by have := HW.out; simp; omega)
  have kV4 : Two w4 w3.heap.size (.int .u64 b0) (.int .u64 b1) 28 := Two.keep (Two.drewN (kV) _) hb4 (by have := HW.out; simp; omega)
  have B4 : Below w.heap.size w w4 := (below_drewN B3 _).trans (hb4.mono (by have := HW.out; simp; omega))
  have d0 := kP4.c0
  have d1 := kP4.c1
  have d2 := kV4.c0
  have d3 := kV4.c1
  have y1 := kP4.lt
  have y2 := kV4.lt
  clear hb4 kP kP4 kV kV4 kA kB kO cP0 cP1 cO0 cO1 cA0 cA1 cB0 cB1
  go_wp2
  go_ret
  exact ⟨rfl, B4.alloc (by omega) _⟩

set_option maxRecDepth 100000 in
set_option maxHeartbeats 1000000 in
theorem eq_2ztf (ao : Option Addr) (c : Nat) (a0 a1 b0 b1 : Int) (t0 : (bits .and .u64 (bits .xor .u64 a0 b0) 18446744073709551615 != 0) = true) (f0 : (a0 == b0) = false) (t1 : (bits .and .u64 (bits .xor .u64 a1 b1) 18446744073709551615 != 0) = false) (f1 : (a1 == b1) = true) (w : World) :
    Calls Try.prog 3 #[.slice ao 2 c, .int .u64 0, .agg #[.int .u64 a0, .int .u64 a1], .agg #[.int .u64 b0, .int .u64 b1]] w fun e w' => e = .returned (.bool true) ∧ Below w.heap.size w w' := by
  have q := eql28
  go_enter Try.func3, Try.ntmps3
  go_wp2_with fail
  refine (bytes4 ao 2 c 0 a0 a1 b0 b1 (by omega) _).mono ?_
  rintro e w1 ⟨rfl, hb1⟩
  simp only [World.size_alloc] at hb1
  have kA : Two w1 w.heap.size (.int .u64 a0) (.int .u64 a1) 24 := ((Two.new w _ _ _).alloc _).keep hb1 (by omega)
  have kB : Two w1 (w.heap.size + 1) (.int .u64 b0) (.int .u64 b1) 24 := by
    have := Two.new (w.alloc (.cells #[.int .u64 a0, .int .u64 a1] 24)) (.int .u64 b0) (.int .u64 b1) 24
    rw [World.size_alloc] at this
    exact this.keep hb1 (by omega)
  have B1 : Below w.heap.size w w1 := (((Below.refl _ w).alloc (Nat.le_refl _) _).alloc (by simp) _).trans (hb1.mono (by omega))
  have zA := kA.lt
  have zB := kB.lt
  have cA0 := kA.c0
  have cA1 := kA.c1
  clear hb1
  go_wp2_with fail
  refine (value_2z ao c a0 a1 _).mono ?_
  rintro e w2 ⟨rfl, hb2⟩
  have kO := (Two.new w1 (.slice ao 2 c) (.int .u64 0) 27).keep hb2 (by simp)
  have kA := (kA.alloc _).keep hb2 (by simp; omega)
  have kB := (kB.alloc _).keep hb2 (by simp; omega)
  have B2 : Below w.heap.size w w2 := (B1.alloc (by omega) _).trans (hb2.mono (by simp; omega))
  have zO := kO.lt
  have zA2 := kA.lt
  have zB2 := kB.lt
  have cO0 := kO.c0
  have cO1 := kO.c1
  have cB0 := kB.c0
  have cB1 := kB.c1
  clear hb2 cA0 cA1
  go_wp2_with fail
  refine (value_2z ao c b0 b1 _).mono ?_
  rintro e w3 ⟨rfl, hb3⟩
  have kP := (Two.new w2 (.int .u64 a0) (.int .u64 a1) 28).keep hb3 (by simp)
  have kO := (kO.alloc _).keep hb3 (by simp; omega)
  have kA := (kA.alloc _).keep hb3 (by simp; omega)
  have kB := (kB.alloc _).keep hb3 (by simp; omega)
  have B3 : Below w.heap.size w w3 := (B2.alloc (by omega) _).trans (hb3.mono (by simp; omega))
  have zP := kP.lt
  have zA3 := kA.lt
  have zB3 := kB.lt
  have zO3 := kO.lt
  clear hb3 cO0 cO1 cB0 cB1
  have cP0 := kP.c0
  have cP1 := kP.c1
  have cO0 := kO.c0
  have cO1 := kO.c1
  have cA0 := kA.c0
  have cA1 := kA.c1
  have cB0 := kB.c0
  have cB1 := kB.c1
  go_wp2
  refine wp_loop_rounds 3 ?_
  rw [rounds_succ]
  go_wp2
  go_quiet ((go_at_call 6; exact Calls.quiet_of_same (mask_no _)))
  go_wp2
  have kV : Two (w3.alloc (.cells #[.int .u64 b0, .int .u64 b1] 28)) w3.heap.size (.int .u64 b0) (.int .u64 b1) 28 := Two.new _ _ _ _
  obtain ⟨W', hW'⟩ : ∃ W', W' = (w3.alloc (.cells #[.int .u64 b0, .int .u64 b1] 28)).drewN nq := ⟨_, rfl⟩
  rw [← hW']
  have zW : W'.heap.size = w3.heap.size + 1 := by rw [hW']; simp
  have kV := Two.drewN kV nq
  have kP := Two.drewN (kP.alloc (.cells #[.int .u64 b0, .int .u64 b1] 28)) nq
  have kO := Two.drewN (kO.alloc (.cells #[.int .u64 b0, .int .u64 b1] 28)) nq
  have kA := Two.drewN (kA.alloc (.cells #[.int .u64 b0, .int .u64 b1] 28)) nq
  have kB := Two.drewN (kB.alloc (.cells #[.int .u64 b0, .int .u64 b1] 28)) nq
  have B3 := below_drewN (B3.alloc (by omega) (.cells #[.int .u64 b0, .int .u64 b1] 28)) nq
  rw [← hW'] at kV kP kO kA kB B3
  clear cP0 cP1 cO0 cO1 cA0 cA1 cB0 cB1 hW' t0
  have zW1 : w3.heap.size < W'.heap.size := by omega
  have HW : Hid (W'.heap.size = w3.heap.size + 1) := zW
  clear zW
  have cP0 := kP.c0
  have cP1 := kP.c1
  have cO0 := kO.c0
  have cO1 := kO.c1
  have cA0 := kA.c0
  have cA1 := kA.c1
  have cB0 := kB.c0
  have cB1 := kB.c1
  rw [rounds_succ]
  go_wp2
  go_quiet ((go_at_call 6; exact Calls.quiet_of_same (mask_one 0 _)))
  go_wp2
  rw [rounds_succ]
  go_wp2_with fail
  refine (value_2z ao c a0 a1 _).mono ?_
  rintro e w4 ⟨rfl, hb4⟩
  have kP4 : Two w4 w2.heap.size (.int .u64 a0) (.int .u64 a1) 28 := Two.keep (Two.drewN (kP) _) hb4 (by have := HW.out; simp; omega)
  have kV4 : Two w4 w3.heap.size (.int .u64 b0) (.int .u64 b1) 28 := Two.keep (Two.drewN (kV) _) hb4 (by have := HW.out; simp; omega)
  have B4 : Below w.heap.size w w4 := (below_drewN B3 _).trans (hb4.mono (by have := HW.out; simp; omega))
  have d0 := kP4.c0
  have d1 := kP4.c1
  have d2 := kV4.c0
  have d3 := kV4.c1
  have y1 := kP4.lt
  have y2 := kV4.lt
  clear hb4 kP kP4 kV kV4 kA kB kO cP0 cP1 cO0 cO1 cA0 cA1 cB0 cB1
  go_wp2
  go_ret
  exact ⟨rfl, B4.alloc (by omega) _⟩

set_option maxRecDepth 100000 in
set_option maxHeartbeats 1000000 in
theorem eq_2ztt (ao : Option Addr) (c : Nat) (a0 a1 b0 b1 : Int) (t0 : (bits .and .u64 (bits .xor .u64 a0 b0) 18446744073709551615 != 0) = true) (f0 : (a0 == b0) = false) (t1 : (bits .and .u64 (bits .xor .u64 a1 b1) 18446744073709551615 != 0) = true) (f1 : (a1 == b1) = false) (w : World) :
    Calls Try.prog 3 #[.slice ao 2 c, .int .u64 0, .agg #[.int .u64 a0, .int .u64 a1], .agg #[.int .u64 b0, .int .u64 b1]] w fun e w' => e = .returned (.bool true) ∧ Below w.heap.size w w' := by
  have q := eql28
  go_enter Try.func3, Try.ntmps3
  go_wp2_with fail
  refine (bytes4 ao 2 c 0 a0 a1 b0 b1 (by omega) _).mono ?_
  rintro e w1 ⟨rfl, hb1⟩
  simp only [World.size_alloc] at hb1
  have kA : Two w1 w.heap.size (.int .u64 a0) (.int .u64 a1) 24 := ((Two.new w _ _ _).alloc _).keep hb1 (by omega)
  have kB : Two w1 (w.heap.size + 1) (.int .u64 b0) (.int .u64 b1) 24 := by
    have := Two.new (w.alloc (.cells #[.int .u64 a0, .int .u64 a1] 24)) (.int .u64 b0) (.int .u64 b1) 24
    rw [World.size_alloc] at this
    exact this.keep hb1 (by omega)
  have B1 : Below w.heap.size w w1 := (((Below.refl _ w).alloc (Nat.le_refl _) _).alloc (by simp) _).trans (hb1.mono (by omega))
  have zA := kA.lt
  have zB := kB.lt
  have cA0 := kA.c0
  have cA1 := kA.c1
  clear hb1
  go_wp2_with fail
  refine (value_2z ao c a0 a1 _).mono ?_
  rintro e w2 ⟨rfl, hb2⟩
  have kO := (Two.new w1 (.slice ao 2 c) (.int .u64 0) 27).keep hb2 (by simp)
  have kA := (kA.alloc _).keep hb2 (by simp; omega)
  have kB := (kB.alloc _).keep hb2 (by simp; omega)
  have B2 : Below w.heap.size w w2 := (B1.alloc (by omega) _).trans (hb2.mono (by simp; omega))
  have zO := kO.lt
  have zA2 := kA.lt
  have zB2 := kB.lt
  have cO0 := kO.c0
  have cO1 := kO.c1
  have cB0 := kB.c0
  have cB1 := kB.c1
  clear hb2 cA0 cA1
  go_wp2_with fail
  refine (value_2z ao c b0 b1 _).mono ?_
  rintro e w3 ⟨rfl, hb3⟩
  have kP := (Two.new w2 (.int .u64 a0) (.int .u64 a1) 28).keep hb3 (by simp)
  have kO := (kO.alloc _).keep hb3 (by simp; omega)
  have kA := (kA.alloc _).keep hb3 (by simp; omega)
  have kB := (kB.alloc _).keep hb3 (by simp; omega)
  have B3 : Below w.heap.size w w3 := (B2.alloc (by omega) _).trans (hb3.mono (by simp; omega))
  have zP := kP.lt
  have zA3 := kA.lt
  have zB3 := kB.lt
  have zO3 := kO.lt
  clear hb3 cO0 cO1 cB0 cB1
  have cP0 := kP.c0
  have cP1 := kP.c1
  have cO0 := kO.c0
  have cO1 := kO.c1
  have cA0 := kA.c0
  have cA1 := kA.c1
  have cB0 := kB.c0
  have cB1 := kB.c1
  go_wp2
  refine wp_loop_rounds 3 ?_
  rw [rounds_succ]
  go_wp2
  go_quiet ((go_at_call 6; exact Calls.quiet_of_same (mask_no _)))
  go_wp2
  have kV : Two (w3.alloc (.cells #[.int .u64 b0, .int .u64 b1] 28)) w3.heap.size (.int .u64 b0) (.int .u64 b1) 28 := Two.new _ _ _ _
  obtain ⟨W', hW'⟩ : ∃ W', W' = (w3.alloc (.cells #[.int .u64 b0, .int .u64 b1] 28)).drewN nq := ⟨_, rfl⟩
  rw [← hW']
  have zW : W'.heap.size = w3.heap.size + 1 := by rw [hW']; simp
  have kV := Two.drewN kV nq
  have kP := Two.drewN (kP.alloc (.cells #[.int .u64 b0, .int .u64 b1] 28)) nq
  have kO := Two.drewN (kO.alloc (.cells #[.int .u64 b0, .int .u64 b1] 28)) nq
  have kA := Two.drewN (kA.alloc (.cells #[.int .u64 b0, .int .u64 b1] 28)) nq
  have kB := Two.drewN (kB.alloc (.cells #[.int .u64 b0, .int .u64 b1] 28)) nq
  have B3 := below_drewN (B3.alloc (by omega) (.cells #[.int .u64 b0, .int .u64 b1] 28)) nq
  rw [← hW'] at kV kP kO kA kB B3
  clear cP0 cP1 cO0 cO1 cA0 cA1 cB0 cB1 hW' t0
  have zW1 : w3.heap.size < W'.heap.size := by omega
  have HW : Hid (W'.heap.size = w3.heap.size + 1) := zW
  clear zW
  have cP0 := kP.c0
  have cP1 := kP.c1
  have cO0 := kO.c0
  have cO1 := kO.c1
  have cA0 := kA.c0
  have cA1 := kA.c1
  have cB0 := kB.c0
  have cB1 := kB.c1
  rw [rounds_succ]
  go_wp2
  go_quiet ((go_at_call 6; exact Calls.quiet_of_same (mask_one 0 _)))
  go_wp2
  rw [rounds_succ]
  go_wp2_with fail
  refine (value_2z ao c a0 a1 _).mono ?_
  rintro e w4 ⟨rfl, hb4⟩
  have kP4 : Two w4 w2.heap.size (.int .u64 a0) (.int .u64 a1) 28 := Two.keep (Two.drewN (kP) _) hb4 (by have := HW.out; simp; omega)
  have kV4 : Two w4 w3.heap.size (.int .u64 b0) (.int .u64 b1) 28 := Two.keep (Two.drewN (kV) _) hb4 (by have := HW.out; simp; omega)
  have B4 : Below w.heap.size w w4 := (below_drewN B3 _).trans (hb4.mono (by have := HW.out; simp; omega))
  have d0 := kP4.c0
  have d1 := kP4.c1
  have d2 := kV4.c0
  have d3 := kV4.c1
  have y1 := kP4.lt
  have y2 := kV4.lt
  clear hb4 kP kP4 kV kV4 kA kB kO cP0 cP1 cO0 cO1 cA0 cA1 cB0 cB1
  go_wp2
  go_ret
  exact ⟨rfl, B4.alloc (by omega) _⟩

set_option maxRecDepth 100000 in
set_option maxHeartbeats 1000000 in
theorem eq_2mff (ao : Option Addr) (c : Nat) (mask : Int) (a0 a1 b0 b1 : Int) (h : (mask != 0) = true) (t0 : (bits .and .u64 (bits .xor .u64 a0 b0) mask != 0) = false) (f0 : ((bits .and .u64 a0 mask) == (bits .and .u64 b0 mask)) = true) (i0 : bits .and .u64 (bits .and .u64 a0 mask) mask = bits .and .u64 a0 mask) (t1 : (bits .and .u64 (bits .xor .u64 a1 b1) 18446744073709551615 != 0) = false) (f1 : (a1 == b1) = true) (w : World) :
    Calls Try.prog 3 #[.slice ao 2 c, .int .u64 mask, .agg #[.int .u64 a0, .int .u64 a1], .agg #[.int .u64 b0, .int .u64 b1]] w fun e w' => e = .returned (.bool true) ∧ Below w.heap.size w w' := by
  have q := eql28
  go_enter Try.func3, Try.ntmps3
  go_wp2_with fail
  refine (bytes4 ao 2 c mask a0 a1 b0 b1 (by omega) _).mono ?_
  rintro e w1 ⟨rfl, hb1⟩
  simp only [World.size_alloc] at hb1
  have kA : Two w1 w.heap.size (.int .u64 a0) (.int .u64 a1) 24 := ((Two.new w _ _ _).alloc _).keep hb1 (by omega)
  have kB : Two w1 (w.heap.size + 1) (.int .u64 b0) (.int .u64 b1) 24 := by
    have := Two.new (w.alloc (.cells #[.int .u64 a0, .int .u64 a1] 24)) (.int .u64 b0) (.int .u64 b1) 24
    rw [World.size_alloc] at this
    exact this.keep hb1 (by omega)
  have B1 : Below w.heap.size w w1 := (((Below.refl _ w).alloc (Nat.le_refl _) _).alloc (by simp) _).trans (hb1.mono (by omega))
  have zA := kA.lt
  have zB := kB.lt
  have cA0 := kA.c0
  have cA1 := kA.c1
  clear hb1
  go_wp2_with fail
  refine (value_2m ao c mask a0 a1 h _).mono ?_
  rintro e w2 ⟨rfl, hb2⟩
  have kO := (Two.new w1 (.slice ao 2 c) (.int .u64 mask) 27).keep hb2 (by simp)
  have kA := (kA.alloc _).keep hb2 (by simp; omega)
  have kB := (kB.alloc _).keep hb2 (by simp; omega)
  have B2 : Below w.heap.size w w2 := (B1.alloc (by omega) _).trans (hb2.mono (by simp; omega))
  have zO := kO.lt
  have zA2 := kA.lt
  have zB2 := kB.lt
  have cO0 := kO.c0
  have cO1 := kO.c1
  have cB0 := kB.c0
  have cB1 := kB.c1
  clear hb2 cA0 cA1
  go_wp2_with fail
  refine (value_2m ao c mask b0 b1 h _).mono ?_
  rintro e w3 ⟨rfl, hb3⟩
  have kP := (Two.new w2 (.int .u64 (bits .and .u64 a0 mask)) (.int .u64 a1) 28).keep hb3 (by simp)
  have kO := (kO.alloc _).keep hb3 (by simp; omega)
  have kA := (kA.alloc _).keep hb3 (by simp; omega)
  have kB := (kB.alloc _).keep hb3 (by simp; omega)
  have B3 : Below w.heap.size w w3 := (B2.alloc (by omega) _).trans (hb3.mono (by simp; omega))
  have zP := kP.lt
  have zA3 := kA.lt
  have zB3 := kB.lt
  have zO3 := kO.lt
  clear hb3 cO0 cO1 cB0 cB1
  have cP0 := kP.c0
  have cP1 := kP.c1
  have cO0 := kO.c0
  have cO1 := kO.c1
  have cA0 := kA.c0
  have cA1 := kA.c1
  have cB0 := kB.c0
  have cB1 := kB.c1
  go_wp2
  refine wp_loop_rounds 3 ?_
  rw [rounds_succ]
  go_wp2
  go_quiet ((go_at_call 6; exact Calls.quiet_of_same (mask_yes mask h _)))
  go_wp2
  have kV : Two (w3.alloc (.cells #[.int .u64 (bits .and .u64 b0 mask), .int .u64 b1] 28)) w3.heap.size (.int .u64 (bits .and .u64 b0 mask)) (.int .u64 b1) 28 := Two.new _ _ _ _
  obtain ⟨W', hW'⟩ : ∃ W', W' = (w3.alloc (.cells #[.int .u64 (bits .and .u64 b0 mask), .int .u64 b1] 28)).drewN nq := ⟨_, rfl⟩
  rw [← hW']
  have zW : W'.heap.size = w3.heap.size + 1 := by rw [hW']; simp
  have kV := Two.drewN kV nq
  have kP := Two.drewN (kP.alloc (.cells #[.int .u64 (bits .and .u64 b0 mask), .int .u64 b1] 28)) nq
  have kO := Two.drewN (kO.alloc (.cells #[.int .u64 (bits .and .u64 b0 mask), .int .u64 b1] 28)) nq
  have kA := Two.drewN (kA.alloc (.cells #[.int .u64 (bits .and .u64 b0 mask), .int .u64 b1] 28)) nq
  have kB := Two.drewN (kB.alloc (.cells #[.int .u64 (bits .and .u64 b0 mask), .int .u64 b1] 28)) nq
  have B3 := below_drewN (B3.alloc (by omega) (.cells #[.int .u64 (bits .and .u64 b0 mask), .int .u64 b1] 28)) nq
  rw [← hW'] at kV kP kO kA kB B3
  clear cP0 cP1 cO0 cO1 cA0 cA1 cB0 cB1 hW' t0
  have zW1 : w3.heap.size < W'.heap.size := by omega
  have HW : Hid (W'.heap.size = w3.heap.size + 1) := zW
  clear zW
  have cP0 := kP.c0
  have cP1 := kP.c1
  have cO0 := kO.c0
  have cO1 := kO.c1
  have cA0 := kA.c0
  have cA1 := kA.c1
  have cB0 := kB.c0
  have cB1 := kB.c1
  rw [rounds_succ]
  go_wp2
  go_quiet ((go_at_call 6; exact Calls.quiet_of_same (mask_one mask _)))
  go_wp2
  rw [rounds_succ]
  go_wp2_with fail
  refine (value_2m ao c mask (bits .and .u64 a0 mask) a1 h _).mono ?_
  rintro e w4 ⟨rfl, hb4⟩
  rw [i0]
  have kP4 : Two w4 w2.heap.size (.int .u64 (bits .and .u64 a0 mask)) (.int .u64 a1) 28 := Two.keep (Two.drewN (kP) _) hb4 (by have := HW.out; simp; omega)
  have kV4 : Two w4 w3.heap.size (.int .u64 (bits .and .u64 b0 mask)) (.int .u64 b1) 28 := Two.keep (Two.drewN (kV) _) hb4 (by have := HW.out; simp; omega)
  have B4 : Below w.heap.size w w4 := (below_drewN B3 _).trans (hb4.mono (by have := HW.out; simp; omega))
  have d0 := kP4.c0
  have d1 := kP4.c1
  have d2 := kV4.c0
  have d3 := kV4.c1
  have y1 := kP4.lt
  have y2 := kV4.lt
  clear hb4 kP kP4 kV kV4 kA kB kO cP0 cP1 cO0 cO1 cA0 cA1 cB0 cB1
  go_wp2
  go_ret
  exact ⟨rfl, B4.alloc (by omega) _⟩

set_option maxRecDepth 100000 in
set_option maxHeartbeats 1000000 in
theorem eq_2mft (ao : Option Addr) (c : Nat) (mask : Int) (a0 a1 b0 b1 : Int) (h : (mask != 0) = true) (t0 : (bits .and .u64 (bits .xor .u64 a0 b0) mask != 0) = false) (f0 : ((bits .and .u64 a0 mask) == (bits .and .u64 b0 mask)) = true) (i0 : bits .and .u64 (bits .and .u64 a0 mask) mask = bits .and .u64 a0 mask) (t1 : (bits .and .u64 (bits .xor .u64 a1 b1) 18446744073709551615 != 0) = true) (f1 : (a1 == b1) = false) (w : World) :
    Calls Try.prog 3 #[.slice ao 2 c, .int .u64 mask, .agg #[.int .u64 a0, .int .u64 a1], .agg #[.int .u64 b0, .int .u64 b1]] w fun e w' => e = .returned (.bool true) ∧ Below w.heap.size w w' := by
  have q := eql28
  go_enter Try.func3, Try.ntmps3
  go_wp2_with fail
  refine (bytes4 ao 2 c mask a0 a1 b0 b1 (by omega) _).mono ?_
  rintro e w1 ⟨rfl, hb1⟩
  simp only [World.size_alloc] at hb1
  have kA : Two w1 w.heap.size (.int .u64 a0) (.int .u64 a1) 24 := ((Two.new w _ _ _).alloc _).keep hb1 (by omega)
  have kB : Two w1 (w.heap.size + 1) (.int .u64 b0) (.int .u64 b1) 24 := by
    have := Two.new (w.alloc (.cells #[.int .u64 a0, .int .u64 a1] 24)) (.int .u64 b0) (.int .u64 b1) 24
    rw [World.size_alloc] at this
    exact this.keep hb1 (by omega)
  have B1 : Below w.heap.size w w1 := (((Below.refl _ w).alloc (Nat.le_refl _) _).alloc (by simp) _).trans (hb1.mono (by omega))
  have zA := kA.lt
  have zB := kB.lt
  have cA0 := kA.c0
  have cA1 := kA.c1
  clear hb1
  go_wp2_with fail
  refine (value_2m ao c mask a0 a1 h _).mono ?_
  rintro e w2 ⟨rfl, hb2⟩
  have kO := (Two.new w1 (.slice ao 2 c) (.int .u64 mask) 27).keep hb2 (by simp)
  have kA := (kA.alloc _).keep hb2 (by simp; omega)
  have kB := (kB.alloc _).keep hb2 (by simp; omega)
  have B2 : Below w.heap.size w w2 := (B1.alloc (by omega) _).trans (hb2.mono (by simp; omega))
  have zO := kO.lt
  have zA2 := kA.lt
  have zB2 := kB.lt
  have cO0 := kO.c0
  have cO1 := kO.c1
  have cB0 := kB.c0
  have cB1 := kB.c1
  clear hb2 cA0 cA1
  go_wp2_with fail
  refine (value_2m ao c mask b0 b1 h _).mono ?_
  rintro e w3 ⟨rfl, hb3⟩
  have kP := (Two.new w2 (.int .u64 (bits .and .u64 a0 mask)) (.int .u64 a1) 28).keep hb3 (by simp)
  have kO := (kO.alloc _).keep hb3 (by simp; omega)
  have kA := (kA.alloc _).keep hb3 (by simp; omega)
  have kB := (kB.alloc _).keep hb3 (by simp; omega)
  have B3 : Below w.heap.size w w3 := (B2.alloc (by omega) _).trans (hb3.mono (by simp; omega))
  have zP := kP.lt
  have zA3 := kA.lt
  have zB3 := kB.lt
  have zO3 := kO.lt
  clear hb3 cO0 cO1 cB0 cB1
  have cP0 := kP.c0
  have cP1 := kP.c1
  have cO0 := kO.c0
  have cO1 := kO.c1
  have cA0 := kA.c0
  have cA1 := kA.c1
  have cB0 := kB.c0
  have cB1 := kB.c1
  go_wp2
  refine wp_loop_rounds 3 ?_
  rw [rounds_succ]
  go_wp2
  go_quiet ((go_at_call 6; exact Calls.quiet_of_same (mask_yes mask h _)))
  go_wp2
  have kV : Two (w3.alloc (.cells #[.int .u64 (bits .and .u64 b0 mask), .int .u64 b1] 28)) w3.heap.size (.int .u64 (bits .and .u64 b0 mask)) (.int .u64 b1) 28 := Two.new _ _ _ _
  obtain ⟨W', hW'⟩ : ∃ W', W' = (w3.alloc (.cells #[.int .u64 (bits .and .u64 b0 mask), .int .u64 b1] 28)).drewN nq := ⟨_, rfl⟩
  rw [← hW']
  have zW : W'.heap.size = w3.heap.size + 1 := by rw [hW']; simp
  have kV := Two.drewN kV nq
  have kP := Two.drewN (kP.alloc (.cells #[.int .u64 (bits .and .u64 b0 mask), .int .u64 b1] 28)) nq
  have kO := Two.drewN (kO.alloc (.cells #[.int .u64 (bits .and .u64 b0 mask), .int .u64 b1] 28)) nq
  have kA := Two.drewN (kA.alloc (.cells #[.int .u64 (bits .and .u64 b0 mask), .int .u64 b1] 28)) nq
  have kB := Two.drewN (kB.alloc (.cells #[.int .u64 (bits .and .u64 b0 mask), .int .u64 b1] 28)) nq
  have B3 := below_drewN (B3.alloc (by omega) (.cells #[.int .u64 (bits .and .u64 b0 mask), .int .u64 b1] 28)) nq
  rw [← hW'] at kV kP kO kA kB B3
  clear cP0 cP1 cO0 cO1 cA0 cA1 cB0 cB1 hW' t0
  have zW1 : w3.heap.size < W'.heap.size := by omega
  have HW : Hid (W'.heap.size = w3.heap.size + 1) := zW
  clear zW
  have cP0 := kP.c0
  have cP1 := kP.c1
  have cO0 := kO.c0
  have cO1 := kO.c1
  have cA0 := kA.c0
  have cA1 := kA.c1
  have cB0 := kB.c0
  have cB1 := kB.c1
  rw [rounds_succ]
  go_wp2
  go_quiet ((go_at_call 6; exact Calls.quiet_of_same (mask_one mask _)))
  go_wp2
  rw [rounds_succ]
  go_wp2_with fail
  refine (value_2m ao c mask (bits .and .u64 a0 mask) a1 h _).mono ?_
  rintro e w4 ⟨rfl, hb4⟩
  rw [i0]
  have kP4 : Two w4 w2.heap.size (.int .u64 (bits .and .u64 a0 mask)) (.int .u64 a1) 28 := Two.keep (Two.drewN (kP) _) hb4 (by have := HW.out; simp; omega)
  have kV4 : Two w4 w3.heap.size (.int .u64 (bits .and .u64 b0 mask)) (.int .u64 b1) 28 := Two.keep (Two.drewN (kV) _) hb4 (by have := HW.out; simp; omega)
  have B4 : Below w.heap.size w w4 := (below_drewN B3 _).trans (hb4.mono (by have := HW.out; simp; omega))
  have d0 := kP4.c0
  have d1 := kP4.c1
  have d2 := kV4.c0
  have d3 := kV4.c1
  have y1 := kP4.lt
  have y2 := kV4.lt
  clear hb4 kP kP4 kV kV4 kA kB kO cP0 cP1 cO0 cO1 cA0 cA1 cB0 cB1
  go_wp2
  go_ret
  exact ⟨rfl, B4.alloc (by omega) _⟩

set_option maxRecDepth 100000 in
set_option maxHeartbeats 1000000 in
theorem eq_2mtf (ao : Option Addr) (c : Nat) (mask : Int) (a0 a1 b0 b1 : Int) (h : (mask != 0) = true) (t0 : (bits .and .u64 (bits .xor .u64 a0 b0) mask != 0) = true) (f0 : ((bits .and .u64 a0 mask) == (bits .and .u64 b0 mask)) = false) (i0 : bits .and .u64 (bits .and .u64 a0 mask) mask = bits .and .u64 a0 mask) (t1 : (bits .and .u64 (bits .xor .u64 a1 b1) 18446744073709551615 != 0) = false) (f1 : (a1 == b1) = true) (w : World) :
    Calls Try.prog 3 #[.slice ao 2 c, .int .u64 mask, .agg #[.int .u64 a0, .int .u64 a1], .agg #[.int .u64 b0, .int .u64 b1]] w fun e w' => e = .returned (.bool true) ∧ Below w.heap.size w w' := by
  have q := eql28
  go_enter Try.func3, Try.ntmps3
  go_wp2_with fail
  refine (bytes4 ao 2 c mask a0 a1 b0 b1 (by omega) _).mono ?_
  rintro e w1 ⟨rfl, hb1⟩
  simp only [World.size_alloc] at hb1
  have kA : Two w1 w.heap.size (.int .u64 a0) (.int .u64 a1) 24 := ((Two.new w _ _ _).alloc _).keep hb1 (by omega)
  have kB : Two w1 (w.heap.size + 1) (.int .u64 b0) (.int .u64 b1) 24 := by
    have := Two.new (w.alloc (.cells #[.int .u64 a0, .int .u64 a1] 24)) (.int .u64 b0) (.int .u64 b1) 24
    rw [World.size_alloc] at this
    exact this.keep hb1 (by omega)
  have B1 : Below w.heap.size w w1 := (((Below.refl _ w).alloc (Nat.le_refl _) _).alloc (by simp) _).trans (hb1.mono (by omega))
  have zA := kA.lt
  have zB := kB.lt
  have cA0 := kA.c0
  have cA1 := kA.c1
  clear hb1
  go_wp2_with fail
  refine (value_2m ao c mask a0 a1 h _).mono ?_
  rintro e w2 ⟨rfl, hb2⟩
  have kO := (Two.new w1 (.slice ao 2 c) (.int .u64 mask) 27).keep hb2 (by simp)
  have kA := (kA.alloc _).keep hb2 (by simp; omega)
  have kB := (kB.alloc _).keep hb2 (by simp; omega)
  have B2 : Below w.heap.size w w2 := (B1.alloc (by omega) _).trans (hb2.mono (by simp; omega))
  have zO := kO.lt
  have zA2 := kA.lt
  have zB2 := kB.lt
  have cO0 := kO.c0
  have cO1 := kO.c1
  have cB0 := kB.c0
  have cB1 := kB.c1
  clear hb2 cA0 cA1
  go_wp2_with fail
  refine (value_2m ao c mask b0 b1 h _).mono ?_
  rintro e w3 ⟨rfl, hb3⟩
  have kP := (Two.new w2 (.int .u64 (bits .and .u64 a0 mask)) (.int .u64 a1) 28).keep hb3 (by simp)
  have kO := (kO.alloc _).keep hb3 (by simp; omega)
  have kA := (kA.alloc _).keep hb3 (by simp; omega)
  have kB := (kB.alloc _).keep hb3 (by simp; omega)
  have B3 : Below w.heap.size w w3 := (B2.alloc (by omega) _).trans (hb3.mono (by simp; omega))
  have zP := kP.lt
  have zA3 := kA.lt
  have zB3 := kB.lt
  have zO3 := kO.lt
  clear hb3 cO0 cO1 cB0 cB1
  have cP0 := kP.c0
  have cP1 := kP.c1
  have cO0 := kO.c0
  have cO1 := kO.c1
  have cA0 := kA.c0
  have cA1 := kA.c1
  have cB0 := kB.c0
  have cB1 := kB.c1
  go_wp2
  refine wp_loop_rounds 3 ?_
  rw [rounds_succ]
  go_wp2
  go_quiet ((go_at_call 6; exact Calls.quiet_of_same (mask_yes mask h _)))
  go_wp2
  have kV : Two (w3.alloc (.cells #[.int .u64 (bits .and .u64 b0 mask), .int .u64 b1] 28)) w3.heap.size (.int .u64 (bits .and .u64 b0 mask)) (.int .u64 b1) 28 := Two.new _ _ _ _
  obtain ⟨W', hW'⟩ : ∃ W', W' = (w3.alloc (.cells #[.int .u64 (bits .and .u64 b0 mask), .int .u64 b1] 28)).drewN nq := ⟨_, rfl⟩
  rw [← hW']
  have zW : W'.heap.size = w3.heap.size + 1 := by rw [hW']; simp
  have kV := Two.drewN kV nq
  have kP := Two.drewN (kP.alloc (.cells #[.int .u64 (bits .and .u64 b0 mask), .int .u64 b1] 28)) nq
  have kO := Two.drewN (kO.alloc (.cells #[.int .u64 (bits .and .u64 b0 mask), .int .u64 b1] 28)) nq
  have kA := Two.drewN (kA.alloc (.cells #[.int .u64 (bits .and .u64 b0 mask), .int .u64 b1] 28)) nq
  have kB := Two.drewN (kB.alloc (.cells #[.int .u64 (bits .and .u64 b0 mask), .int .u64 b1] 28)) nq
  have B3 := below_drewN (B3.alloc (by omega) (.cells #[.int .u64 (bits .and .u64 b0 mask), .int .u64 b1] 28)) nq
  rw [← hW'] at kV kP kO kA kB B3
  clear cP0 cP1 cO0 cO1 cA0 cA1 cB0 cB1 hW' t0
  have zW1 : w3.heap.size < W'.heap.size := by omega
  have HW : Hid (W'.heap.size = w3.heap.size + 1) := zW
  clear zW
  have cP0 := kP.c0
  have cP1 := kP.c1
  have cO0 := kO.c0
  have cO1 := kO.c1
  have cA0 := kA.c0
  have cA1 := kA.c1
  have cB0 := kB.c0
  have cB1 := kB.c1
  rw [rounds_succ]
  go_wp2
  go_quiet ((go_at_call 6; exact Calls.quiet_of_same (mask_one mask _)))
  go_wp2
  rw [rounds_succ]
  go_wp2_with fail
  refine (value_2m ao c mask (bits .and .u64 a0 mask) a1 h _).mono ?_
  rintro e w4 ⟨rfl, hb4⟩
  rw [i0]
  have kP4 : Two w4 w2.heap.size (.int .u64 (bits .and .u64 a0 mask)) (.int .u64 a1) 28 := Two.keep (Two.drewN (kP) _) hb4 (by have := HW.out; simp; omega)
  have kV4 : Two w4 w3.heap.size (.int .u64 (bits .and .u64 b0 mask)) (.int .u64 b1) 28 := Two.keep (Two.drewN (kV) _) hb4 (by have := HW.out; simp; omega)
  have B4 : Below w.heap.size w w4 := (below_drewN B3 _).trans (hb4.mono (by have := HW.out; simp; omega))
  have d0 := kP4.c0
  have d1 := kP4.c1
  have d2 := kV4.c0
  have d3 := kV4.c1
  have y1 := kP4.lt
  have y2 := kV4.lt
  clear hb4 kP kP4 kV kV4 kA kB kO cP0 cP1 cO0 cO1 cA0 cA1 cB0 cB1
  go_wp2
  go_ret
  exact ⟨rfl, B4.alloc (by omega) _⟩

set_option maxRecDepth 100000 in
set_option maxHeartbeats 1000000 in
theorem eq_2mtt (ao : Option Addr) (c : Nat) (mask : Int) (a0 a1 b0 b1 : Int) (h : (mask != 0) = true) (t0 : (bits .and .u64 (bits .xor .u64 a0 b0) mask != 0) = true) (f0 : ((bits .and .u64 a0 mask) == (bits .and .u64 b0 mask)) = false) (i0 : bits .and .u64 (bits .and .u64 a0 mask) mask = bits .and .u64 a0 mask) (t1 : (bits .and .u64 (bits .xor .u64 a1 b1) 18446744073709551615 != 0) = true) (f1 : (a1 == b1) = false) (w : World) :
    Calls Try.prog 3 #[.slice ao 2 c, .int .u64 mask, .agg #[.int .u64 a0, .int .u64 a1], .agg #[.int .u64 b0, .int .u64 b1]] w fun e w' => e = .returned (.bool true) ∧ Below w.heap.size w w' := by
  have q := eql28
  go_enter Try.func3, Try.ntmps3
  go_wp2_with fail
  refine (bytes4 ao 2 c mask a0 a1 b0 b1 (by omega) _).mono ?_
  rintro e w1 ⟨rfl, hb1⟩
  simp only [World.size_alloc] at hb1
  have kA : Two w1 w.heap.size (.int .u64 a0) (.int .u64 a1) 24 := ((Two.new w _ _ _).alloc _).keep hb1 (by omega)
  have kB : Two w1 (w.heap.size + 1) (.int .u64 b0) (.int .u64 b1) 24 := by
    have := Two.new (w.alloc (.cells #[.int .u64 a0, .int .u64 a1] 24)) (.int .u64 b0) (.int .u64 b1) 24
    rw [World.size_alloc] at this
    exact this.keep hb1 (by omega)
  have B1 : Below w.heap.size w w1 := (((Below.refl _ w).alloc (Nat.le_refl _) _).alloc (by simp) _).trans (hb1.mono (by omega))
  have zA := kA.lt
  have zB := kB.lt
  have cA0 := kA.c0
  have cA1 := kA.c1
  clear hb1
  go_wp2_with fail
  refine (value_2m ao c mask a0 a1 h _).mono ?_
  rintro e w2 ⟨rfl, hb2⟩
  have kO := (Two.new w1 (.slice ao 2 c) (.int .u64 mask) 27).keep hb2 (by simp)
  have kA := (kA.alloc _).keep hb2 (by simp; omega)
  have kB := (kB.alloc _).keep hb2 (by simp; omega)
  have B2 : Below w.heap.size w w2 := (B1.alloc (by omega) _).trans (hb2.mono (by simp; omega))
  have zO := kO.lt
  have zA2 := kA.lt
  have zB2 := kB.lt
  have cO0 := kO.c0
  have cO1 := kO.c1
  have cB0 := kB.c0
  have cB1 := kB.c1
  clear hb2 cA0 cA1
  go_wp2_with fail
  refine (value_2m ao c mask b0 b1 h _).mono ?_
  rintro e w3 ⟨rfl, hb3⟩
  have kP := (Two.new w2 (.int .u64 (bits .and .u64 a0 mask)) (.int .u64 a1) 28).keep hb3 (by simp)
  have kO := (kO.alloc _).keep hb3 (by simp; omega)
  have kA := (kA.alloc _).keep hb3 (by simp; omega)
  have kB := (kB.alloc _).keep hb3 (by simp; omega)
  have B3 : Below w.heap.size w w3 := (B2.alloc (by omega) _).trans (hb3.mono (by simp; omega))
  have zP := kP.lt
  have zA3 := kA.lt
  have zB3 := kB.lt
  have zO3 := kO.lt
  clear hb3 cO0 cO1 cB0 cB1
  have cP0 := kP.c0
  have cP1 := kP.c1
  have cO0 := kO.c0
  have cO1 := kO.c1
  have cA0 := kA.c0
  have cA1 := kA.c1
  have cB0 := kB.c0
  have cB1 := kB.c1
  go_wp2
  refine wp_loop_rounds 3 ?_
  rw [rounds_succ]
  go_wp2
  go_quiet ((go_at_call 6; exact Calls.quiet_of_same (mask_yes mask h _)))
  go_wp2
  have kV : Two (w3.alloc (.cells #[.int .u64 (bits .and .u64 b0 mask), .int .u64 b1] 28)) w3.heap.size (.int .u64 (bits .and .u64 b0 mask)) (.int .u64 b1) 28 := Two.new _ _ _ _
  obtain ⟨W', hW'⟩ : ∃ W', W' = (w3.alloc (.cells #[.int .u64 (bits .and .u64 b0 mask), .int .u64 b1] 28)).drewN nq := ⟨_, rfl⟩
  rw [← hW']
  have zW : W'.heap.size = w3.heap.size + 1 := by rw [hW']; simp
  have kV := Two.drewN kV nq
  have kP := Two.drewN (kP.alloc (.cells #[.int .u64 (bits .and .u64 b0 mask), .int .u64 b1] 28)) nq
  have kO := Two.drewN (kO.alloc (.cells #[.int .u64 (bits .and .u64 b0 mask), .int .u64 b1] 28)) nq
  have kA := Two.drewN (kA.alloc (.cells #[.int .u64 (bits .and .u64 b0 mask), .int .u64 b1] 28)) nq
  have kB := Two.drewN (kB.alloc (.cells #[.int .u64 (bits .and .u64 b0 mask), .int .u64 b1] 28)) nq
  have B3 := below_drewN (B3.alloc (by omega) (.cells #[.int .u64 (bits .and .u64 b0 mask), .int .u64 b1] 28)) nq
  rw [← hW'] at kV kP kO kA kB B3
  clear cP0 cP1 cO0 cO1 cA0 cA1 cB0 cB1 hW' t0
  have zW1 : w3.heap.size < W'.heap.size := by omega
  have HW : Hid (W'.heap.size = w3.heap.size + 1) := zW
  clear zW
  have cP0 := kP.c0
  have cP1 := kP.c1
  have cO0 := kO.c0
  have cO1 := kO.c1
  have cA0 := kA.c0
  have cA1 := kA.c1
  have cB0 := kB.c0
  have cB1 := kB.c1
  rw [rounds_succ]
  go_wp2
  go_quiet ((go_at_call 6; exact Calls.quiet_of_same (mask_one mask _)))
  go_wp2
  rw [rounds_succ]
  go_wp2_with fail
  refine (value_2m ao c mask (bits .and .u64 a0 mask) a1 h _).mono ?_
  rintro e w4 ⟨rfl, hb4⟩
  rw [i0]
  have kP4 : Two w4 w2.heap.size (.int .u64 (bits .and .u64 a0 mask)) (.int .u64 a1) 28 := Two.keep (Two.drewN (kP) _) hb4 (by have := HW.out; simp; omega)
  have kV4 : Two w4 w3.heap.size (.int .u64 (bits .and .u64 b0 mask)) (.int .u64 b1) 28 := Two.keep (Two.drewN (kV) _) hb4 (by have := HW.out; simp; omega)
  have B4 : Below w.heap.size w w4 := (below_drewN B3 _).trans (hb4.mono (by have := HW.out; simp; omega))
  have d0 := kP4.c0
  have d1 := kP4.c1
  have d2 := kV4.c0
  have d3 := kV4.c1
  have y1 := kP4.lt
  have y2 := kV4.lt
  clear hb4 kP kP4 kV kV4 kA kB kO cP0 cP1 cO0 cO1 cA0 cA1 cB0 cB1
  go_wp2
  go_ret
  exact ⟨rfl, B4.alloc (by omega) _⟩

end Go.Proofs.Qxb6627526a
