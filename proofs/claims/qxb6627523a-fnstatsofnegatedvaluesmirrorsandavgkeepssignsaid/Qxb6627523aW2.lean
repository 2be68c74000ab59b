/-
  Seat b6627523a: more of the small functions; a float operation's run, valid or not.
-/
import Derived.Test.Qxb6627523aW1
import Derived.Test.Qxb6627523aSt
import Derived.Deep.QuietTactic
namespace Go.Proofs.Qxb6627523a
open Go.RowKit Fl

theorem nan_cut (x y t : Nat) : nan ((Question.nanBits .f64 x y).cut t) = true ∧ (Question.nanBits .f64 x y).cut t < 18446744073709551616 := by
  show nan ((t % 2) * 2 ^ 63 + 0x7ff0000000000000 + 1 + (t / 2) % (2 ^ 52 - 1)) = true ∧ (t % 2) * 2 ^ 63 + 0x7ff0000000000000 + 1 + (t / 2) % (2 ^ 52 - 1) < 18446744073709551616
  have hq : (t / 2) % (2 ^ 52 - 1) < 4503599627370495 := Nat.mod_lt _ (by omega)
  have hb : t % 2 = 0 ∨ t % 2 = 1 := by omega
  generalize (t / 2) % (2 ^ 52 - 1) = q at hq
  unfold nan rg
  constructor
  · simp only [decide_eq_true_eq]
    rcases hb with h | h <;> rw [h] <;> omega
  · rcases hb with h | h <;> rw [h] <;> omega

theorem floatBits_num {op : BinOp} {x y r : Nat} (h : floatBits op .f64 x y = some r) (hs : op ≠ .sub) : Num r := by
  cases op <;> first | (exact absurd rfl hs) | (simp [floatBits] at h; done) | skip
  · exact add_num h
  · exact mul_num h
  · exact div_num h

theorem run_arith (op : BinOp) (hop : op = .add ∨ op = .mul ∨ op = .quo) (x y : Nat) :
    ∃ (F : World → Nat) (k : Nat), (∀ w, (binOp op 24 (.float .f64 x) (.float .f64 y)).run Try.prog w = .ok (.float .f64 (F w)) (w.drewN k)) ∧ ∀ w, RelO (floatBits op .f64 x y) (F w) := by
  cases h : floatBits op .f64 x y with
  | some r =>
    refine ⟨fun _ => r, 0, fun w => run_float_arith w op 24 .f64 x y r h, fun w => ⟨rfl, floatBits_num h (by rcases hop with rfl | rfl | rfl <;> simp)⟩⟩
  | none =>
    refine ⟨fun w => (Question.nanBits .f64 x y).cut (w.tape w.drawn (.nanBits .f64 x y)), 1, fun w => ?_, fun w => nan_cut _ _ _⟩
    rcases hop with rfl | rfl | rfl <;> simp only [floatBits] at h <;> simp [binOp, Op.floatArith, h, Question.forced] <;> rfl

set_option maxHeartbeats 400000 in
theorem nan6 (w : World) : Calls Try.prog 6 #[] w fun e w' => ∃ b, e = .returned (.float .f64 b) ∧ nan b = true ∧ b < 18446744073709551616 ∧ ∃ n, w' = w.drewN n := by
  obtain ⟨F, k, h, hr⟩ := run_arith .quo (by simp) 0 0
  have hn : floatBits .quo .f64 0 0 = none := by decide
  rw [hn] at hr
  go_enter Try.func6, Try.ntmps6
  go_wp2
  go_ret
  exact ⟨_, rfl, (hr _).1, (hr _).2, _, rfl⟩

set_option maxHeartbeats 400000 in
theorem before10 (x y : Nat) (hx : Num x) (hy : Num y) (w : World) : Calls Try.prog 10 #[.float .f64 x, .float .f64 y] w fun e w' => e = .returned (.bool (decide (key x < key y))) ∧ w' = w := by
  rw [← before_test hx hy, ← eq_zero_test hx, ← eq_zero_test hy, ← fmt64]
  cases h1 : (FloatKind.f64.format.order x y == some .lt) with
  | true =>
    go_enter Try.func10, Try.ntmps10
    go_wp2
    go_ret
    exact ⟨rfl, rfl⟩
  | false =>
    cases h2 : (FloatKind.f64.format.order x 0 == some .eq) with
    | false =>
      go_enter Try.func10, Try.ntmps10
      go_wp2
      go_ret
      exact ⟨rfl, rfl⟩
    | true =>
      cases h3 : (FloatKind.f64.format.order y 0 == some .eq) with
      | false =>
        go_enter Try.func10, Try.ntmps10
        go_wp2
        go_ret
        exact ⟨rfl, rfl⟩
      | true =>
        cases h4 : nz x with
        | false =>
          go_enter Try.func10, Try.ntmps10
          go_wp2_with fail
          refine (negZero15 x hx _).mono ?_
          rintro e w' ⟨rfl, rfl⟩
          rw [h4]
          go_wp2
          go_ret
          exact ⟨rfl, rfl⟩
        | true =>
          go_enter Try.func10, Try.ntmps10
          go_wp2_with fail
          refine (negZero15 x hx _).mono ?_
          rintro e w' ⟨rfl, rfl⟩
          rw [h4]
          go_wp2_with fail
          refine (negZero15 y hy _).mono ?_
          rintro e w' ⟨rfl, rfl⟩
          go_wp2
          go_ret
          exact ⟨rfl, rfl⟩

/-- what zzStatsEqual answers -/
def equalB (x y : Nat) : Bool := if nan x || nan y then nan x && nan y else decide (ival x = ival y)

theorem equal_test {x y : Nat} (hx : Num x) (hy : Num y) : (Ieee.double.order x y == some .eq) = decide (ival x = ival y) := by
  rw [order_eq hx.2 hy.2]
  by_cases h : ival x = ival y
  · rw [Int.compare_eq_eq.2 h]; simp [h]
  · simp only [h, decide_false]
    rw [beq_eq_false_iff_ne]
    intro e
    simp only [Option.some.injEq] at e
    exact h (Int.compare_eq_eq.1 e)

set_option maxHeartbeats 400000 in
theorem equal12 (x y : Nat) (hx : x < 18446744073709551616) (hy : y < 18446744073709551616) (w : World) : Calls Try.prog 12 #[.float .f64 x, .float .f64 y] w fun e w' => e = .returned (.bool (equalB x y)) ∧ w' = w := by
  by_cases hnx : nan x = true
  · have e : equalB x y = nan y := by unfold equalB; rw [hnx]; rfl
    rw [e]
    go_enter Try.func12, Try.ntmps12
    go_wp2_with fail
    refine (isNaN9 x _).mono ?_
    rintro e w' ⟨rfl, rfl⟩
    rw [hnx]
    go_wp2_with fail
    refine (isNaN9 x _).mono ?_
    rintro e w' ⟨rfl, rfl⟩
    rw [hnx]
    go_wp2_with fail
    refine (isNaN9 y _).mono ?_
    rintro e w' ⟨rfl, rfl⟩
    go_wp2
    go_ret
    exact ⟨rfl, rfl⟩
  · have hnx : nan x = false := by simpa using hnx
    by_cases hny : nan y = true
    · have e : equalB x y = false := by unfold equalB; rw [hnx, hny]; rfl
      rw [e]
      go_enter Try.func12, Try.ntmps12
      go_wp2_with fail
      refine (isNaN9 x _).mono ?_
      rintro e w' ⟨rfl, rfl⟩
      rw [hnx]
      go_wp2_with fail
      refine (isNaN9 y _).mono ?_
      rintro e w' ⟨rfl, rfl⟩
      rw [hny]
      go_wp2_with fail
      refine (isNaN9 x _).mono ?_
      rintro e w' ⟨rfl, rfl⟩
      rw [hnx]
      go_wp2
      go_ret
      exact ⟨rfl, rfl⟩
    · have hny : nan y = false := by simpa using hny
      have e : equalB x y = (Ieee.double.order x y == some .eq) := by rw [equal_test (num_of hx hnx) (num_of hy hny)]; unfold equalB; rw [hnx, hny]; rfl
      rw [e, ← fmt64]
      go_enter Try.func12, Try.ntmps12
      go_wp2_with fail
      refine (isNaN9 x _).mono ?_
      rintro e w' ⟨rfl, rfl⟩
      rw [hnx]
      go_wp2_with fail
      refine (isNaN9 y _).mono ?_
      rintro e w' ⟨rfl, rfl⟩
      rw [hny]
      go_wp2
      go_ret
      exact ⟨rfl, rfl⟩

end Go.Proofs.Qxb6627523a
