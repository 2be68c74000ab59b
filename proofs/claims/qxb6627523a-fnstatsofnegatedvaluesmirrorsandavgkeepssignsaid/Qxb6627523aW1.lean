/-
  Seat b6627523a: the small functions over floats, by their contracts.
-/
import Derived.Test.Qxb6627523aRows
import Derived.Test.Qxb6627523aSt
import Derived.WalkKit
import Derived.WalkSpells
import Derived.WalkLawsBesides
namespace Go.Proofs.Qxb6627523a
open Go.RowKit Fl

theorem fmt64 : FloatKind.f64.format = Ieee.double := rfl

set_option maxHeartbeats 400000 in
theorem isNaN9 (x : Nat) (w : World) : Calls Try.prog 9 #[.float .f64 x] w fun e w' => e = .returned (.bool (nan x)) ∧ w' = w := by
  have h := isNaN_eq x
  rw [← fmt64] at h
  go_enter Try.func9, Try.ntmps9
  go_wp2
  go_ret
  exact ⟨rfl, rfl⟩

set_option maxHeartbeats 400000 in
theorem isNaN20 (x : Nat) (w : World) : Calls Try.prog 20 #[.float .f64 x] w fun e w' => e = .returned (.bool (nan x)) ∧ w' = w := by
  have h := isNaN_eq x
  rw [← fmt64] at h
  go_enter Try.func20, Try.ntmps20
  go_wp2
  go_ret
  exact ⟨rfl, rfl⟩

set_option maxHeartbeats 400000 in
theorem isValue16 (x : Nat) (w : World) : Calls Try.prog 16 #[.float .f64 x] w fun e w' => e = .returned (.bool (!nan x)) ∧ w' = w := by
  go_enter Try.func16, Try.ntmps16
  go_wp2_with (go_at_call 20; refine (isNaN20 x _).mono ?_; rintro e w' ⟨rfl, rfl⟩)
  go_ret
  exact ⟨rfl, rfl⟩

theorem frombits21 (n : Int) (w : World) : (callFunc 21 #[.int .u64 n]).run Try.prog w = .ok (.value (.float .f64 n.toNat)) w :=
  run_callFunc_extern (e := Extern.MathFloatBits.float64frombits) Try.func21 (by kernel_rfl) (by kernel_rfl) (by kernel_rfl) (by kernel_rfl) #[.int .u64 n] w

theorem bits25 (x : Nat) (w : World) : (callFunc 25 #[.float .f64 x]).run Try.prog w = .ok (.value (.int .u64 (x : Int))) w :=
  run_callFunc_extern (e := Extern.MathFloatBits.float64bits) Try.func25 (by kernel_rfl) (by kernel_rfl) (by kernel_rfl) (by kernel_rfl) #[.float .f64 x] w

set_option maxHeartbeats 400000 in
theorem nan18 (w : World) : Calls Try.prog 18 #[] w fun e w' => e = .returned (.float .f64 9221120237041090561) ∧ w' = w := by
  have h21 := frombits21
  go_enter Try.func18, Try.ntmps18
  go_wp2
  go_ret
  exact ⟨rfl, rfl⟩

theorem andNot_sign {x : Nat} (hx : x < 18446744073709551616) : bits .andNot .u64 (x : Int) 9223372036854775808 = (rg x : Int) := by
  have h := u64_andNot_nat x 9223372036854775808 hx (by omega)
  rw [show (18446744073709551615 - 9223372036854775808 : Nat) = 2 ^ 63 - 1 from rfl, Nat.and_two_pow_sub_one_eq_mod] at h
  exact h

set_option maxHeartbeats 400000 in
theorem abs24 (x : Nat) (hx : x < 18446744073709551616) (w : World) : Calls Try.prog 24 #[.float .f64 x] w fun e w' => e = .returned (.float .f64 (rg x)) ∧ w' = w := by
  have h21 := frombits21
  have h25 := bits25
  have ha := andNot_sign hx
  go_enter Try.func24, Try.ntmps24
  go_wp2
  go_ret
  exact ⟨rfl, rfl⟩

theorem rg_rg (x : Nat) : rg (rg x) = rg x := by unfold rg; omega
theorem rg_max : rg 9218868437227405311 = 9218868437227405311 := rfl
theorem sg_rg (x : Nat) : sg (rg x) = false := by
  unfold sg rg
  rw [show x % 9223372036854775808 / 9223372036854775808 % 2 = 0 by omega]
  rfl

theorem inf_test (x : Nat) : (Ieee.double.order (rg x) 9218868437227405311 == some .gt) = decide (rg x = 9218868437227405312) := by
  by_cases h : 9218868437227405312 < rg x
  · rw [order_nan (Or.inl (by rw [rg_rg]; exact h))]
    have : ¬ rg x = 9218868437227405312 := by omega
    simp [this]
  · rw [order_eq (by rw [rg_rg]; omega) (by rw [rg_max]; omega)]
    have e1 : ival (rg x) = (V (rg x) : Int) := by unfold ival; rw [sg_rg, rg_rg]; rfl
    have e2 : ival 9218868437227405311 = (V 9218868437227405311 : Int) := by unfold ival; rw [rg_max]; rfl
    rw [e1, e2]
    by_cases hi : rg x = 9218868437227405312
    · have hlt := V_lt (r := 9218868437227405311) (s := rg x) (by omega)
      rw [Int.compare_eq_gt.2 (by omega)]
      simp [hi]
    · have hle := V_le (r := rg x) (s := 9218868437227405311) (by omega)
      simp only [hi, decide_false]
      rw [beq_eq_false_iff_ne]
      intro e
      simp only [Option.some.injEq] at e
      rw [Int.compare_eq_gt] at e
      omega

set_option maxHeartbeats 400000 in
theorem isInf23 (x : Nat) (hx : x < 18446744073709551616) (w : World) : Calls Try.prog 23 #[.float .f64 x, .int .i64 0] w fun e w' => e = .returned (.bool (decide (rg x = 9218868437227405312))) ∧ w' = w := by
  have hi := inf_test x
  rw [← fmt64] at hi
  go_enter Try.func23, Try.ntmps23
  go_wp2_with (go_at_call 24; refine (abs24 x hx _).mono ?_; rintro e w' ⟨rfl, rfl⟩)
  go_ret
  exact ⟨rfl, rfl⟩

set_option maxHeartbeats 400000 in
theorem isInf22 (x : Nat) (hx : x < 18446744073709551616) (w : World) : Calls Try.prog 22 #[.float .f64 x] w fun e w' => e = .returned (.bool (decide (rg x = 9218868437227405312))) ∧ w' = w := by
  go_enter Try.func22, Try.ntmps22
  go_wp2_with (go_at_call 23; refine (isInf23 x hx _).mono ?_; rintro e w' ⟨rfl, rfl⟩)
  go_ret
  exact ⟨rfl, rfl⟩

/-- one over a zero -/
theorem one_over {x : Nat} (h : rg x = 0) : floatBits .quo .f64 4607182418800017408 x = some (Ieee.double.word (sg x) 9218868437227405312) := by
  show Ieee.double.div 4607182418800017408 x = _
  unfold Ieee.Format.div
  rw [read_one]
  obtain ⟨m, e, hr, hv, _, _⟩ := read_fin (x := x) (by omega)
  rw [h, V_zero] at hv
  have hm : m = 0 := by
    rcases Nat.mul_eq_zero.1 hv with h | h
    · exact h
    · have := Nat.two_pow_pos e; omega
  rw [hr, hm]
  simp only [Ieee.Datum.quotient]
  rw [if_pos trivial, if_neg (by omega)]
  cases sg x <;> rfl

theorem inf_lt_zero (s : Bool) : (Ieee.double.order (Ieee.double.word s 9218868437227405312) 0 == some .lt) = s := by
  rw [order_eq (by rw [rg_word (by omega)]; omega) (by rw [rg_zero]; omega), ival_zero]
  have e : ival (Ieee.double.word s 9218868437227405312) = if s then -(V 9218868437227405312 : Int) else V 9218868437227405312 := by
    unfold ival
    rw [rg_word (by omega), sg_word (by omega)]
  rw [e]
  have hp := V_pos (r := 9218868437227405312) (by omega)
  generalize V 9218868437227405312 = b at *
  cases s
  · simp only [Bool.false_eq_true, if_false]
    rw [Int.compare_eq_gt.2 (by omega)]
    rfl
  · simp only [if_true]
    rw [Int.compare_eq_lt.2 (by omega)]
    rfl

theorem zero_test_nan {x : Nat} (h : nan x = true) : (Ieee.double.order x 0 == some .eq) = false := by
  unfold nan at h
  rw [order_nan (Or.inl (by simpa using h))]
  rfl

set_option maxHeartbeats 400000 in
theorem negZero15 (x : Nat) (hx : Num x) (w : World) : Calls Try.prog 15 #[.float .f64 x] w fun e w' => e = .returned (.bool (nz x)) ∧ w' = w := by
  have ht := eq_zero_test hx
  rw [← fmt64] at ht
  by_cases h : rg x = 0
  · have h1 := fun w => run_float_arith (P := Try.prog) w .quo 24 .f64 4607182418800017408 x _ (one_over h)
    have h2 := inf_lt_zero (sg x)
    generalize Ieee.double.word (sg x) 9218868437227405312 = q at h1 h2
    rw [← fmt64] at h2
    have hd : decide (rg x = 0) = true := by simp [h]
    rw [hd] at ht
    have hnz : nz x = sg x := by unfold nz; rw [hd]; rfl
    rw [hnz]
    have H2 : Hid ((FloatKind.f64.format.order q 0 == some .lt) = sg x) := h2
    clear h hnz hd h2
    go_enter Try.func15, Try.ntmps15
    go_wp2
    go_ret
    refine ⟨?_, rfl⟩
    show Ending.returned (.bool (FloatKind.f64.format.order q 0 == some .lt)) = _
    rw [H2.out]
  · have hd : decide (rg x = 0) = false := by simp [h]
    rw [hd] at ht
    have hnz : nz x = false := by unfold nz; rw [hd]; rfl
    rw [hnz]
    clear h hnz hd
    go_enter Try.func15, Try.ntmps15
    go_wp2
    go_ret
    exact ⟨rfl, rfl⟩

set_option maxHeartbeats 400000 in
theorem same8 (x y : Nat) (hx : x < 18446744073709551616) (hy : y < 18446744073709551616) (w : World) : Calls Try.prog 8 #[.float .f64 x, .float .f64 y] w fun e w' => e = .returned (.bool (sameB x y)) ∧ w' = w := by
  by_cases hnx : nan x = true
  · have e : sameB x y = nan y := by unfold sameB; rw [hnx]; rfl
    rw [e]
    go_enter Try.func8, Try.ntmps8
    go_wp2_with fail
    refine (isNaN9 x _).mono ?_
    rintro e w' ⟨rfl, rfl⟩
    rw [hnx]
    go_wp2_with fail
    refine (isNaN9 x _).mono ?_
    rintro e w' ⟨rfl, rfl⟩
    rw [hnx]
    go_wp2_with fail
    refine (isNaN9 y _).mono ?_
    rintro e w' ⟨rfl, rfl⟩
    go_wp2
    go_ret
    exact ⟨rfl, rfl⟩
  · have hnx : nan x = false := by simpa using hnx
    by_cases hny : nan y = true
    · have e : sameB x y = false := by unfold sameB; rw [hnx, hny]; rfl
      rw [e]
      go_enter Try.func8, Try.ntmps8
      go_wp2_with fail
      refine (isNaN9 x _).mono ?_
      rintro e w' ⟨rfl, rfl⟩
      rw [hnx]
      go_wp2_with fail
      refine (isNaN9 y _).mono ?_
      rintro e w' ⟨rfl, rfl⟩
      rw [hny]
      go_wp2_with fail
      refine (isNaN9 x _).mono ?_
      rintro e w' ⟨rfl, rfl⟩
      rw [hnx]
      go_wp2
      go_ret
      exact ⟨rfl, rfl⟩
    · have hny : nan y = false := by simpa using hny
      have nx := num_of hx hnx
      have ny := num_of hy hny
      have e : sameB x y = ((Ieee.double.order x y == some .eq) && (nz x == nz y)) := by rw [same_test nx ny]; unfold sameB; rw [hnx, hny]; rfl
      rw [e, ← fmt64]
      cases ho : (FloatKind.f64.format.order x y == some .eq) with
      | false =>
        go_enter Try.func8, Try.ntmps8
        go_wp2_with fail
        refine (isNaN9 x _).mono ?_
        rintro e w' ⟨rfl, rfl⟩
        rw [hnx]
        go_wp2_with fail
        refine (isNaN9 y _).mono ?_
        rintro e w' ⟨rfl, rfl⟩
        rw [hny]
        go_wp2
        go_ret
        exact ⟨rfl, rfl⟩
      | true =>
        go_enter Try.func8, Try.ntmps8
        go_wp2_with fail
        refine (isNaN9 x _).mono ?_
        rintro e w' ⟨rfl, rfl⟩
        rw [hnx]
        go_wp2_with fail
        refine (isNaN9 y _).mono ?_
        rintro e w' ⟨rfl, rfl⟩
        rw [hny]
        go_wp2_with fail
        refine (negZero15 x nx _).mono ?_
        rintro e w' ⟨rfl, rfl⟩
        go_wp2_with fail
        refine (negZero15 y ny _).mono ?_
        rintro e w' ⟨rfl, rfl⟩
        go_wp2
        go_ret
        exact ⟨rfl, rfl⟩

end Go.Proofs.Qxb6627523a
