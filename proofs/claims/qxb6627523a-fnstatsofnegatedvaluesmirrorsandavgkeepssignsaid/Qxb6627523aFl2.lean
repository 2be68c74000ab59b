/-
  Seat b6627523a: the model's doubles, plainly: words, keys, min and max, times one, over one, the sign turned. No Go text here.
-/
import Derived.Test.Qxb6627523aFl
import Derived.Laws.FloatArith
namespace Go.Proofs.Qxb6627523a.Fl
open Ieee

/-- the word is one of 64 bits and no NaN -/
def Num (x : Nat) : Prop := x < 18446744073709551616 ∧ rg x ≤ 9218868437227405312

theorem sg_word {s : Bool} {r : Nat} (h : r < 9223372036854775808) : sg (double.word s r) = s := by
  rw [d_word]
  unfold sg
  cases s
  · rw [if_neg (by simp), show r / 9223372036854775808 % 2 = 0 by omega]; rfl
  · rw [if_pos rfl, show (9223372036854775808 + r) / 9223372036854775808 % 2 = 1 by omega]; rfl

theorem rg_word {s : Bool} {r : Nat} (h : r < 9223372036854775808) : rg (double.word s r) = r := by
  rw [d_word]
  unfold rg
  cases s
  · rw [if_neg (by simp)]; omega
  · rw [if_pos rfl]; omega

theorem word_self {x : Nat} (h : x < 18446744073709551616) : double.word (sg x) (rg x) = x := by
  rw [d_word]
  unfold sg rg
  by_cases c : x < 9223372036854775808
  · rw [show x / 9223372036854775808 % 2 = 0 by omega, if_neg (by simp)]; omega
  · rw [show x / 9223372036854775808 % 2 = 1 by omega, if_pos (by simp)]; omega

theorem num_word {s : Bool} {r : Nat} (h : r ≤ 9218868437227405312) : Num (double.word s r) := by
  refine ⟨?_, by rw [rg_word (by omega)]; exact h⟩
  rw [d_word]
  split <;> omega

theorem nan_of {x : Nat} (h : Num x) : nan x = false := by
  unfold nan
  have := h.2
  simp
  omega

theorem num_of {x : Nat} (h : x < 18446744073709551616) (hn : nan x = false) : Num x := by
  unfold nan at hn
  simp at hn
  exact ⟨h, hn⟩

theorem isNaN_eq (x : Nat) : (double.order x x != some .eq) = nan x := by
  unfold nan
  by_cases h : 9218868437227405312 < rg x
  · rw [order_nan (Or.inl h)]
    simp [h]
  · rw [order_eq (by omega) (by omega), Int.compare_eq_eq.2 rfl]
    simp [h]

/-! ### keys -/

/-- words in their order, the two zeros apart -/
def key (x : Nat) : Int := 2 * ival x + if rg x = 0 then (if sg x then -1 else 1) else 0

theorem V_pos {r : Nat} (h : r ≠ 0) : 0 < V r := by
  have := V_lt (r := 0) (s := r) (by omega)
  rw [V_zero] at this
  exact this

theorem key_neg {x : Nat} (h : sg x = true) : key x < 0 := by
  unfold key ival
  rw [h]
  by_cases hz : rg x = 0
  · rw [hz, V_zero]; simp
  · have := V_pos hz
    simp [hz]
    omega

theorem key_pos {x : Nat} (h : sg x = false) : 0 < key x := by
  unfold key ival
  rw [h]
  by_cases hz : rg x = 0
  · rw [hz, V_zero]; simp
  · have := V_pos hz
    simp [hz]
    omega

theorem key_inj {x y : Nat} (hx : x < 18446744073709551616) (hy : y < 18446744073709551616) (h : key x = key y) : x = y := by
  have hs : sg x = sg y := by
    cases e1 : sg x <;> cases e2 : sg y
    · rfl
    · have := key_pos e1; have := key_neg e2; omega
    · have := key_neg e1; have := key_pos e2; omega
    · rfl
  have hr : rg x = rg y := by
    unfold key ival at h
    rw [hs] at h
    by_cases z1 : rg x = 0
    · by_cases z2 : rg y = 0
      · omega
      · have hp := V_pos z2
        rw [z1, V_zero] at h
        cases sg y <;> simp [z2] at h <;> omega
    · have hp := V_pos z1
      by_cases z2 : rg y = 0
      · rw [z2, V_zero] at h
        cases sg y <;> simp [z1] at h <;> omega
      · apply V_inj
        cases sg y <;> simp [z1, z2] at h <;> omega
  rw [← word_self hx, ← word_self hy, hs, hr]

/-- the test for a negative zero -/
def nz (x : Nat) : Bool := decide (rg x = 0) && sg x

theorem rg_zero : rg 0 = 0 := rfl
theorem ival_zero : ival 0 = 0 := by unfold ival; rw [rg_zero, V_zero]; rfl

theorem ival_eq_zero {x : Nat} : ival x = 0 ↔ rg x = 0 := by
  constructor
  · intro h
    apply Classical.byContradiction
    intro hz
    have := V_pos hz
    unfold ival at h
    split at h <;> omega
  · intro h
    unfold ival
    rw [h, V_zero]
    split <;> rfl

theorem eq_zero_test {x : Nat} (h : Num x) : (double.order x 0 == some .eq) = decide (rg x = 0) := by
  rw [order_eq h.2 (by rw [rg_zero]; omega), ival_zero]
  by_cases hz : rg x = 0
  · rw [ival_eq_zero.2 hz, Int.compare_eq_eq.2 rfl]
    simp [hz]
  · have : ¬ ival x = 0 := fun e => hz (ival_eq_zero.1 e)
    simp only [hz, decide_false]
    rw [beq_eq_false_iff_ne]
    intro e
    simp at e
    exact this e

/-- two words are the same to zzStatsSame just where they are one -/
theorem same_test {x y : Nat} (hx : Num x) (hy : Num y) : ((double.order x y == some .eq) && (nz x == nz y)) = decide (x = y) := by
  rw [order_eq hx.2 hy.2]
  by_cases e : x = y
  · subst e
    rw [Int.compare_eq_eq.2 rfl]
    simp
  · simp only [e, decide_false]
    rw [Bool.and_eq_false_iff]
    by_cases hi : ival x = ival y
    · right
      rw [beq_eq_false_iff_ne]
      intro hn
      apply e
      apply key_inj hx.1 hy.1
      unfold key
      rw [hi]
      by_cases hz : rg x = 0
      · have hz2 : rg y = 0 := by rw [← ival_eq_zero, ← hi, ival_eq_zero]; exact hz
        unfold nz at hn
        simp [hz, hz2] at hn
        simp [hz, hz2, hn]
      · have hz2 : ¬ rg y = 0 := by rw [← ival_eq_zero, ← hi, ival_eq_zero]; exact hz
        simp [hz, hz2]
    · left
      rw [beq_eq_false_iff_ne]
      intro h
      simp at h
      exact hi h

theorem tail_bd (x : Nat) : -1 ≤ (if rg x = 0 then (if sg x then (-1 : Int) else 1) else 0) ∧ (if rg x = 0 then (if sg x then (-1 : Int) else 1) else 0) ≤ 1 := by
  by_cases h : rg x = 0
  · rw [if_pos h]
    cases sg x <;> simp
  · rw [if_neg h]
    omega

theorem key_lt_of_ival {x y : Nat} (h : ival x < ival y) : key x < key y := by
  have h1 := tail_bd x
  have h2 := tail_bd y
  unfold key
  by_cases hz : rg x = 0
  · have hz2 : ¬ rg y = 0 := by
      intro e
      rw [ival_eq_zero.2 hz, ival_eq_zero.2 e] at h
      omega
    rw [if_neg hz2]
    omega
  · rw [if_neg hz]
    omega

/-- zzStatsBefore, by keys -/
theorem before_test {x y : Nat} (hx : Num x) (hy : Num y) :
    ((double.order x y == some .lt) || (decide (rg x = 0) && decide (rg y = 0) && nz x && !nz y)) = decide (key x < key y) := by
  rw [order_eq hx.2 hy.2]
  rcases Int.lt_trichotomy (ival x) (ival y) with h | h | h
  · rw [Int.compare_eq_lt.2 h]
    simp [key_lt_of_ival h]
  · rw [Int.compare_eq_eq.2 h]
    by_cases hz : rg x = 0
    · have hz2 : rg y = 0 := by rw [← ival_eq_zero, ← h, ival_eq_zero]; exact hz
      unfold nz key
      rw [h, hz, hz2]
      cases sg x <;> cases sg y <;> simp
    · have hz2 : ¬ rg y = 0 := by rw [← ival_eq_zero, ← h, ival_eq_zero]; exact hz
      unfold key
      rw [h]
      simp [hz, hz2]
  · rw [Int.compare_eq_gt.2 h]
    have := key_lt_of_ival h
    have hne : ¬ (rg x = 0 ∧ rg y = 0) := by
      intro ⟨a, b⟩
      rw [ival_eq_zero.2 a, ival_eq_zero.2 b] at h
      omega
    have h2 : ¬ key x < key y := by omega
    simp only [h2, decide_false]
    cases e1 : decide (rg x = 0) <;> cases e2 : decide (rg y = 0) <;> simp at * <;> omega

/-! ### min, max -/

def minK (x y : Nat) : Nat := if key x ≤ key y then x else y
def maxK (x y : Nat) : Nat := if key x ≤ key y then y else x

theorem sg_eq (x : Nat) : (FloatKind.f64.decode x).neg = sg x := by
  show (double.read x).neg = sg x
  rw [read_eq]
  repeat' split
  all_goals rfl

theorem eq_of_ival {x y : Nat} (hx : Num x) (hy : Num y) (h : ival x = ival y) (hz : ¬ rg x = 0) : x = y := by
  apply key_inj hx.1 hy.1
  have hz2 : ¬ rg y = 0 := by rw [← ival_eq_zero, ← h, ival_eq_zero]; exact hz
  unfold key
  rw [h, if_neg hz, if_neg hz2]

theorem min_lt {x y : Nat} (hx : Num x) (hy : Num y) (h : double.order x y = some .lt) : minK x y = x ∧ maxK x y = y := by
  rw [order_eq hx.2 hy.2] at h
  simp at h
  have := key_lt_of_ival (Int.compare_eq_lt.1 h)
  unfold minK maxK
  rw [if_pos (by omega), if_pos (by omega)]
  exact ⟨rfl, rfl⟩

theorem min_gt {x y : Nat} (hx : Num x) (hy : Num y) (h : double.order x y = some .gt) : minK x y = y ∧ maxK x y = x := by
  rw [order_eq hx.2 hy.2] at h
  simp at h
  have := key_lt_of_ival (Int.compare_eq_gt.1 h)
  unfold minK maxK
  rw [if_neg (by omega), if_neg (by omega)]
  exact ⟨rfl, rfl⟩

theorem min_eq {x y : Nat} (hx : Num x) (hy : Num y) (h : double.order x y = some .eq) : minK x y = (if sg x then x else y) ∧ maxK x y = (if sg x then y else x) := by
  rw [order_eq hx.2 hy.2] at h
  simp at h
  have hi : ival x = ival y := Int.compare_eq_eq.1 (by simpa using h)
  by_cases hz : rg x = 0
  · have hz2 : rg y = 0 := by rw [← ival_eq_zero, ← hi, ival_eq_zero]; exact hz
    have kx : key x = if sg x then -1 else 1 := by unfold key; rw [ival_eq_zero.2 hz, if_pos hz]; split <;> rfl
    have ky : key y = if sg y then -1 else 1 := by unfold key; rw [ival_eq_zero.2 hz2, if_pos hz2]; split <;> rfl
    unfold minK maxK
    cases e1 : sg x <;> cases e2 : sg y <;> simp [kx, ky, e1, e2]
    · have := key_inj hx.1 hy.1 (by rw [kx, ky, e1, e2])
      subst this
      exact ⟨rfl, rfl⟩
  · have := eq_of_ival hx hy hi hz
    subst this
    unfold minK maxK
    simp

theorem minK_num {x y : Nat} (hx : Num x) (hy : Num y) : Num (minK x y) := by unfold minK; split <;> assumption
theorem maxK_num {x y : Nat} (hx : Num x) (hy : Num y) : Num (maxK x y) := by unfold maxK; split <;> assumption

/-! ### times one, over one -/

theorem read_one : double.read 4607182418800017408 = .number false 4503599627370496 (-52) := by decide

theorem write_inf (s : Bool) : double.write (.infinity s) = double.word s 9218868437227405312 := rfl

theorem mul_one {x : Nat} (h : Num x) : double.mul x 4607182418800017408 = some x := by
  unfold Format.mul
  rw [read_one]
  by_cases f : rg x < 9218868437227405312
  · obtain ⟨m, e, hr, hv, _, _⟩ := read_fin f
    rw [hr]
    simp only [Datum.product, Option.map_some, Format.write, Bool.xor_false]
    have := nearest_exact (neg := sg x) (mag := m * 4503599627370496) (a := 52) (b := e) (r := rg x) h.2 (by rw [← hv, Nat.mul_right_comm])
    rw [show -1074 + (e : Int) + -52 = -1074 + (e : Int) - ((52 : Nat) : Int) by omega, this, word_self h.1]
  · have i : rg x = 9218868437227405312 := by have := h.2; omega
    rw [read_inf i]
    simp only [Datum.product]
    rw [if_neg (by omega), Option.map_some, write_inf, Bool.xor_false, ← i, word_self h.1]

theorem log2_lt53 {m : Nat} (h : m < 9007199254740992) : m.log2 ≤ 52 := by
  by_cases h0 : m = 0
  · subst h0; decide
  · have h1 : 2 ^ m.log2 ≤ m := Nat.log2_self_le h0
    have h2 : 2 ^ m.log2 < 2 ^ 53 := Nat.lt_of_le_of_lt h1 h
    have := (Nat.pow_lt_pow_iff_right (a := 2) (by omega)).1 h2
    omega

theorem log2_b : (4503599627370496 : Nat).log2 = 52 := by decide

theorem div_one {x : Nat} (h : Num x) : double.div x 4607182418800017408 = some x := by
  unfold Format.div
  rw [read_one]
  by_cases f : rg x < 9218868437227405312
  · obtain ⟨m, e, hr, hv, hm, _⟩ := read_fin f
    rw [hr]
    simp only [Datum.quotient, d_frac, log2_b]
    rw [if_neg (by omega)]
    have hl := log2_lt53 hm
    obtain ⟨k, hk⟩ : ∃ k, 52 + 2 + 52 - m.log2 = 52 + k := ⟨54 - m.log2, by omega⟩
    rw [hk]
    have e1 : m <<< (52 + k) = m * 2 ^ k * 4503599627370496 := by
      rw [Nat.shiftLeft_eq, Nat.pow_add, show (2 : Nat) ^ 52 = 4503599627370496 from rfl, ← Nat.mul_assoc, Nat.mul_right_comm]
    rw [e1, Nat.mul_div_cancel _ (by omega), Nat.mul_mod_left]
    simp only [Option.map_some, Format.write, Bool.xor_false, bne_self_eq_false, Bool.toNat_false, Nat.add_zero]
    have := nearest_exact (neg := sg x) (mag := 2 * (m * 2 ^ k)) (a := k + 1) (b := e) (r := rg x) h.2 (by
      rw [← hv, Nat.pow_succ]
      simp only [Nat.mul_assoc, Nat.mul_comm, Nat.mul_left_comm])
    rw [show -1074 + (e : Int) - -52 - ((52 + k : Nat) : Int) - 1 = -1074 + (e : Int) - ((k + 1 : Nat) : Int) by omega, this, word_self h.1]
  · have i : rg x = 9218868437227405312 := by have := h.2; omega
    rw [read_inf i]
    simp only [Datum.quotient]
    rw [Option.map_some, write_inf, Bool.xor_false, ← i, word_self h.1]

/-! ### results are no NaNs -/

theorem write_num (s : Bool) (m : Nat) (p : Int) : Num (double.write (.number s m p)) := by
  show Num (double.nearest s m p)
  by_cases h : m = 0
  · subst h
    rw [nearest_zero]
    exact num_word (by omega)
  · rw [nearest_eq s p h]
    exact num_word (Nat.min_le_right _ _)

theorem write_inf_num (s : Bool) : Num (double.write (.infinity s)) := num_word (Nat.le_refl _)

theorem sum_kind {a b c : Datum} (h : Datum.sum a b = some c) : (∃ s m p, c = .number s m p) ∨ ∃ s, c = .infinity s := by
  cases a <;> cases b <;> simp [Datum.sum] at h
  · subst h; exact Or.inl ⟨_, _, _, rfl⟩
  · subst h; exact Or.inr ⟨_, rfl⟩
  · subst h; exact Or.inr ⟨_, rfl⟩
  · obtain ⟨_, rfl⟩ := h; exact Or.inr ⟨_, rfl⟩

theorem product_kind {a b c : Datum} (h : Datum.product a b = some c) : (∃ s m p, c = .number s m p) ∨ ∃ s, c = .infinity s := by
  cases a <;> cases b <;> simp [Datum.product] at h
  · subst h; exact Or.inl ⟨_, _, _, rfl⟩
  · obtain ⟨_, rfl⟩ := h; exact Or.inr ⟨_, rfl⟩
  · obtain ⟨_, rfl⟩ := h; exact Or.inr ⟨_, rfl⟩
  · subst h; exact Or.inr ⟨_, rfl⟩

theorem quotient_kind {d : Nat} {a b c : Datum} (h : Datum.quotient d a b = some c) : (∃ s m p, c = .number s m p) ∨ ∃ s, c = .infinity s := by
  cases a <;> cases b <;> simp [Datum.quotient] at h
  · rename_i s m i t n j
    by_cases hn : n = 0
    · rw [if_pos hn] at h
      by_cases hm : m = 0
      · rw [if_pos hm] at h; cases h
      · rw [if_neg hm] at h
        cases h
        exact Or.inr ⟨_, rfl⟩
    · rw [if_neg hn] at h
      cases h
      exact Or.inl ⟨_, _, _, rfl⟩
  · subst h; exact Or.inl ⟨_, _, _, rfl⟩
  · subst h; exact Or.inr ⟨_, rfl⟩

theorem num_map {o : Option Datum} {r : Nat} (hk : ∀ c, o = some c → (∃ s m p, c = .number s m p) ∨ ∃ s, c = .infinity s) (h : o.map double.write = some r) : Num r := by
  cases o with
  | none => cases h
  | some c =>
    simp at h
    subst h
    rcases hk c rfl with ⟨s, m, p, rfl⟩ | ⟨s, rfl⟩
    · exact write_num s m p
    · exact write_inf_num s

theorem add_num {x y r : Nat} (h : double.add x y = some r) : Num r := num_map (fun _ => sum_kind) h
theorem mul_num {x y r : Nat} (h : double.mul x y = some r) : Num r := num_map (fun _ => product_kind) h
theorem div_num {x y r : Nat} (h : double.div x y = some r) : Num r := num_map (fun _ => quotient_kind) h

end Go.Proofs.Qxb6627523a.Fl
