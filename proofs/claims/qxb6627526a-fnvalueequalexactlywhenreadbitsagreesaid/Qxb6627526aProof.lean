/-
  Seat b6627526a: 'Rows.FnValueEqualExactlyWhenReadBitsAgreeSaid', proved.
-/
import Derived.Test.Qxb6627526aRows
import Derived.Test.Qxb6627526aEq
import Derived.ProofKit
import Derived.ChangeOld
import Derived.OpenShut
namespace Go.Proofs.Qxb6627526a
open Go.ChangeShapes Go.WideShapes Go.ChangeAt Go.RowKit

/-! ### the plain law: bits -/

theorem xor_zero_eq {x y : Nat} (h : x ^^^ y = 0) : x = y := by
  have h2 := Nat.xor_assoc x x y
  rw [h, Nat.xor_self, Nat.zero_xor, Nat.xor_zero] at h2
  exact h2.symm

theorem and_idem {a m : Int} (h1 : 0 ≤ a) (h2 : a < 18446744073709551616) (h3 : 0 ≤ m) (h4 : m < 18446744073709551616) : bits .and .u64 (bits .and .u64 a m) m = bits .and .u64 a m := by
  obtain ⟨A, rfl⟩ := Int.eq_ofNat_of_zero_le h1
  obtain ⟨M, rfl⟩ := Int.eq_ofNat_of_zero_le h3
  have hlt : A &&& M < 18446744073709551616 := Nat.lt_of_le_of_lt Nat.and_le_left (by omega)
  rw [u64_and_nat A M (by omega) (by omega), u64_and_nat (A &&& M) M hlt (by omega), Nat.and_assoc, Nat.and_self]

theorem test_mask {a b m : Int} (h1 : 0 ≤ a) (h2 : a < 18446744073709551616) (h3 : 0 ≤ b) (h4 : b < 18446744073709551616) (h5 : 0 ≤ m) (h6 : m < 18446744073709551616) :
    (bits .and .u64 (bits .xor .u64 a b) m != 0) = !(bits .and .u64 a m == bits .and .u64 b m) := by
  obtain ⟨A, rfl⟩ := Int.eq_ofNat_of_zero_le h1
  obtain ⟨B, rfl⟩ := Int.eq_ofNat_of_zero_le h3
  obtain ⟨M, rfl⟩ := Int.eq_ofNat_of_zero_le h5
  have hlt : A ^^^ B < 18446744073709551616 := Nat.xor_lt_two_pow (n := 64) (by omega) (by omega)
  rw [u64_xor_nat A B (by omega) (by omega), u64_and_nat (A ^^^ B) M hlt (by omega), u64_and_nat A M (by omega) (by omega), u64_and_nat B M (by omega) (by omega), Nat.and_xor_distrib_right]
  by_cases e : A &&& M = B &&& M
  · rw [e, Nat.xor_self]; simp
  · have hne : (A &&& M) ^^^ (B &&& M) ≠ 0 := fun h => e (xor_zero_eq h)
    rw [Bool.eq_iff_iff]
    simp
    omega

theorem test_all {a b : Int} (h1 : 0 ≤ a) (h2 : a < 18446744073709551616) (h3 : 0 ≤ b) (h4 : b < 18446744073709551616) :
    (bits .and .u64 (bits .xor .u64 a b) 18446744073709551615 != 0) = !(a == b) := by
  rw [test_mask h1 h2 h3 h4 (by omega) (by omega)]
  obtain ⟨A, rfl⟩ := Int.eq_ofNat_of_zero_le h1
  obtain ⟨B, rfl⟩ := Int.eq_ofNat_of_zero_le h3
  have e : ∀ X : Nat, X < 18446744073709551616 → bits .and .u64 (X : Int) 18446744073709551615 = (X : Int) := by
    intro X hX
    have := u64_and_nat X 18446744073709551615 hX (by omega)
    rw [show (18446744073709551615 : Nat) = 2 ^ 64 - 1 from rfl, Nat.and_two_pow_sub_one_eq_mod, Nat.mod_eq_of_lt hX] at this
    exact this
  rw [e A (by omega), e B (by omega)]

/-! ### the walk, every case -/

set_option maxHeartbeats 400000 in
theorem bytes4_no (ao : Option Addr) (n c : Nat) (mask a0 a1 b0 b1 : Int) (hn : 1048576 < n) (w : World) :
    Calls Try.prog 4 #[.slice ao n c, .int .u64 mask, .agg #[.int .u64 a0, .int .u64 a1], .agg #[.int .u64 b0, .int .u64 b1]] w fun e w' => e = .returned (.bool false) ∧ Below w.heap.size w w' := by
  go_enter Try.func4, Try.ntmps4
  go_wp2
  go_ret
  exact ⟨rfl, by repeat (first | exact Below.refl _ _ | (refine Below.alloc ?_ (by simp; try omega) _))⟩

set_option maxHeartbeats 400000 in
theorem eq_long (ao : Option Addr) (n c : Nat) (mask a0 a1 b0 b1 : Int) (hn : 2 < n) (w : World) :
    Calls Try.prog 3 #[.slice ao n c, .int .u64 mask, .agg #[.int .u64 a0, .int .u64 a1], .agg #[.int .u64 b0, .int .u64 b1]] w fun e w' => e = .returned (.bool true) ∧ Below w.heap.size w w' := by
  by_cases h : 1048576 < n
  · go_enter Try.func3, Try.ntmps3
    go_wp2_with fail
    refine (bytes4_no ao n c mask a0 a1 b0 b1 h _).mono ?_
    rintro e w1 ⟨rfl, hb1⟩
    simp only [World.size_alloc] at hb1
    have B1 : Below w.heap.size w w1 := (((Below.refl _ w).alloc (Nat.le_refl _) _).alloc (by simp) _).trans (hb1.mono (by omega))
    go_wp2
    go_ret
    exact ⟨rfl, B1⟩
  · go_enter Try.func3, Try.ntmps3
    go_wp2_with fail
    refine (bytes4 ao n c mask a0 a1 b0 b1 (by omega) _).mono ?_
    rintro e w1 ⟨rfl, hb1⟩
    simp only [World.size_alloc] at hb1
    have B1 : Below w.heap.size w w1 := (((Below.refl _ w).alloc (Nat.le_refl _) _).alloc (by simp) _).trans (hb1.mono (by omega))
    go_wp2
    go_ret
    exact ⟨rfl, B1⟩

def In64 (a : Int) : Prop := 0 ≤ a ∧ a < 18446744073709551616

theorem eq_any (ao : Option Addr) (n c : Nat) (mask a0 a1 b0 b1 : Int) (hm : In64 mask) (ha0 : In64 a0) (ha1 : In64 a1) (hb0 : In64 b0) (hb1 : In64 b1) (w : World) :
    Calls Try.prog 3 #[.slice ao n c, .int .u64 mask, .agg #[.int .u64 a0, .int .u64 a1], .agg #[.int .u64 b0, .int .u64 b1]] w fun e w' => e = .returned (.bool true) ∧ Below w.heap.size w w' := by
  by_cases hn : 2 < n
  · exact eq_long ao n c mask a0 a1 b0 b1 hn w
  have t1 := test_all ha1.1 ha1.2 hb1.1 hb1.2
  by_cases hz : mask = 0
  · subst hz
    have t0 := test_all ha0.1 ha0.2 hb0.1 hb0.2
    match n, hn with
    | 0, _ => exact eq_0z ao c a0 a1 b0 b1 w
    | 1, _ =>
      cases f0 : (a0 == b0) with
      | true => rw [f0] at t0; exact eq_1zf ao c a0 a1 b0 b1 t0 f0 w
      | false => rw [f0] at t0; exact eq_1zt ao c a0 a1 b0 b1 t0 f0 w
    | 2, _ =>
      cases f0 : (a0 == b0) <;> cases f1 : (a1 == b1) <;> rw [f0] at t0 <;> rw [f1] at t1
      · exact eq_2ztt ao c a0 a1 b0 b1 t0 f0 t1 f1 w
      · exact eq_2ztf ao c a0 a1 b0 b1 t0 f0 t1 f1 w
      · exact eq_2zft ao c a0 a1 b0 b1 t0 f0 t1 f1 w
      · exact eq_2zff ao c a0 a1 b0 b1 t0 f0 t1 f1 w
    | n + 3, h => omega
  · have h : (mask != 0) = true := by simpa using hz
    have t0 := test_mask ha0.1 ha0.2 hb0.1 hb0.2 hm.1 hm.2
    have i0 := and_idem ha0.1 ha0.2 hm.1 hm.2
    match n, hn with
    | 0, _ => exact eq_0m ao c mask a0 a1 b0 b1 h w
    | 1, _ =>
      cases f0 : (bits .and .u64 a0 mask == bits .and .u64 b0 mask) with
      | true => rw [f0] at t0; exact eq_1mf ao c mask a0 a1 b0 b1 h t0 f0 i0 w
      | false => rw [f0] at t0; exact eq_1mt ao c mask a0 a1 b0 b1 h t0 f0 i0 w
    | 2, _ =>
      cases f0 : (bits .and .u64 a0 mask == bits .and .u64 b0 mask) <;> cases f1 : (a1 == b1) <;> rw [f0] at t0 <;> rw [f1] at t1
      · exact eq_2mtt ao c mask a0 a1 b0 b1 h t0 f0 i0 t1 f1 w
      · exact eq_2mtf ao c mask a0 a1 b0 b1 h t0 f0 i0 t1 f1 w
      · exact eq_2mft ao c mask a0 a1 b0 b1 h t0 f0 i0 t1 f1 w
      · exact eq_2mff ao c mask a0 a1 b0 b1 h t0 f0 i0 t1 f1 w
    | n + 3, h => omega

/-! ### the row -/

theorem Try.own : ownKnob Try.prog.godebug = none := by kernel_rfl
theorem Try.laidOut : laidOutB Try.prog = true := by kernel_rfl
theorem Try.cells24 : Try.prog.cellsOf 24 = 2 := by kernel_rfl

theorem wf64 {n : Int} (h : (Lit.int .u64 n).wf = true) : In64 n := by
  have := bounds_u64 h
  unfold In64
  omega

theorem open_pair {H : Type} {enc : TypeId × Value → H} {W : World} {base : Nat} {v : Value} {d : DataW H} {p : List MemPlace} {bs : Nat} {sp : Nat → Bool} {held : Bool} (hv : Value.okWide Try.prog W .any base 24 v) (h : DataW.Trod enc Try.prog W bs sp held 24 v d p) :
    ∃ x0 x1 : Int, v = .agg #[.int .u64 x0, .int .u64 x1] ∧ In64 x0 ∧ In64 x1 := by
  simp only [Value.okWide, Try.underlying24] at hv
  obtain ⟨cs, rfl, hsz, _⟩ := hv
  rw [Try.cells24] at hsz
  obtain ⟨fuel, hf⟩ := h
  obtain ⟨xs, m, _, _, _, hl, hx⟩ := DataW.trod_array Try.underlying24 hf
  obtain ⟨l⟩ := cs
  match l, hsz with
  | [c0, c1], _ =>
    match xs, hl with
    | [y0, y1], _ =>
      have g0 := hx 0 (by omega)
      have g1 := hx 1 (by omega)
      simp [Try.cells23, Value.cells] at g0 g1
      obtain ⟨x0, e0, _, w0⟩ := DataW.trod_int Try.underlying23 g0
      obtain ⟨x1, e1, _, w1⟩ := DataW.trod_int Try.underlying23 g1
      simp at e0 e1
      subst e0; subst e1
      exact ⟨x0, x1, rfl, wf64 w0, wf64 w1⟩

set_option maxRecDepth 100000 in
theorem lifted (os : Os) (started : os.Started) (H : Type) (enc : TypeId × Value → H) :
    ReturnsInHanded {} Try.checked os 3 .any (Rows.fnValueEqualExactlyWhenReadBitsAgreeSpec.pre6 enc Try.prog Try.f3 Rows.fnValueEqualExactlyWhenReadBitsAgreeRow.domain false) (Rows.fnValueEqualExactlyWhenReadBitsAgreeSpec.post enc Try.prog Try.f3 false true false false) := by
  refine returnsInHanded_of_change (C := Try.checked) Try.own started (by kernel_rfl) Try.func3
    (ChangeSpec.witness6 (enc := enc) (C := Try.checked) false ⟨#[], #[.slice none 0 0, .int .u64 0, .agg #[.int .u64 0, .int .u64 0], .agg #[.int .u64 0, .int .u64 0]], []⟩ 8 (by kernel_rfl) (by kernel_rfl) (by kernel_rfl) (by kernel_rfl)) ?_
  intro W base args ds gs before hval0 hW hcnd _
  have hval : ∀ (j : Nat) t v, Try.f3.params[j]? = some t → args[j]? = some v → Value.okWide Try.prog W .any base t v := hval0
  have hW' := hW
  obtain ⟨p, q, hA0, hV, rfl, hfz, hnd⟩ := hW
  have hA : DataW.TrodAll enc Try.prog W 0 (fun _ => true) true Try.f3.params.toList args.toList ds p := hA0
  rw [Try.params3] at hA hval
  obtain ⟨v0, vs0, d0, ds0, p0, q0, hargs, rfl, rfl, h0, r0⟩ := trodAll_cons hA
  obtain ⟨v1, vs1, d1, ds1, p1, q1, rfl, rfl, rfl, h1, r1⟩ := trodAll_cons r0
  obtain ⟨v2, vs2, d2, ds2, p2, q2, rfl, rfl, rfl, h2, r2⟩ := trodAll_cons r1
  obtain ⟨v3, vs3, d3, ds3, p3, q3, rfl, rfl, rfl, h3, r3⟩ := trodAll_cons r2
  obtain ⟨rfl, rfl, rfl⟩ := trodAll_nil r3
  obtain rfl : args = #[v0, v1, v2, v3] := by cases args; simp_all
  obtain ⟨rfl, rfl⟩ := trodVars_none hV
  obtain ⟨a0, len0, cap0, rfl⟩ := okWide_slice Try.underlying22 (hval 0 22 v0 rfl rfl)
  obtain ⟨mask, rfl, rfl, rfl, wm⟩ := open_int Try.underlying23 (hval 1 23 v1 rfl rfl) h1
  obtain ⟨x0, x1, rfl, hx0, hx1⟩ := open_pair (hval 2 24 v2 rfl rfl) h2
  obtain ⟨y0, y1, rfl, hy0, hy1⟩ := open_pair (hval 3 24 v3 rfl rfl) h3
  have lt0 : ∀ x ∈ p0, x.block < W.heap.size := by obtain ⟨m, hm⟩ := h0; exact DataW.trod_lt m _ _ _ hm
  have lt2 : ∀ x ∈ p2, x.block < W.heap.size := by obtain ⟨m, hm⟩ := h2; exact DataW.trod_lt m _ _ _ hm
  have lt3 : ∀ x ∈ p3, x.block < W.heap.size := by obtain ⟨m, hm⟩ := h3; exact DataW.trod_lt m _ _ _ hm
  clear hA0 hval0
  refine (eq_any a0 len0 cap0 mask x0 x1 y0 y1 (wf64 wm) hx0 hx1 hy0 hy1 W).mono fun e W' ⟨he, bel⟩ => ?_
  subst he
  exact ⟨_, rfl, _, _, _, [], _, [], hW', trodAll_mk1 (shut_bool Try.underlying4 _),
    (trodAll_cons_mk (Below.trod Try.laidOut (by kernel_rfl) (of_decide_eq_true (by kernel_rfl)) h0 bel lt0) (trodAll_cons_mk (shut_int Try.underlying23 wm) (trodAll_cons_mk (Below.trod Try.laidOut (by kernel_rfl) (of_decide_eq_true (by kernel_rfl)) h2 bel lt2) (trodAll_cons_mk (Below.trod Try.laidOut (by kernel_rfl) (of_decide_eq_true (by kernel_rfl)) h3 bel lt3) trodAll_mk0)))), rfl, bel.frame _, fun h => by cases h⟩

theorem over : Rows.fnValueEqualExactlyWhenReadBitsAgreeRow.holds Try.pinned (OpenSpec.ofChange Rows.fnValueEqualExactlyWhenReadBitsAgreeSpec) :=
  OpenClaim.holds_of_wide 3 Try.f3 rfl rfl rfl rfl rfl rfl rfl ⟨rfl, rfl, rfl, rfl, rfl⟩ rfl rfl rfl rfl rfl (by kernel_rfl) Try.func3 (by kernel_rfl)
    (of_decide_eq_true (by kernel_rfl)) (by unfold Func.isWrapper; first | (rw [if_pos (by decide +kernel)]; kernel_rfl) | (rw [if_neg (by decide +kernel)]; exact ⟨rfl, rfl⟩))
    (fun os started H enc _ => lifted os started H enc)

/-- THE STATEMENT -/
theorem fnValueEqual_proved : Rows.FnValueEqualExactlyWhenReadBitsAgreeSaid := over

end Go.Proofs.Qxb6627526a
