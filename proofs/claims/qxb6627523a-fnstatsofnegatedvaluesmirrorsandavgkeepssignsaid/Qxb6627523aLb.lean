/-
  Seat b6627523a: the plain law of the mirror: the sign turned in every value. No Go text here.
-/
import Derived.Test.Qxb6627523aLa
namespace Go.Proofs.Qxb6627523a
open Fl Ieee

/-- the sign turned -/
def flp (x : Nat) : Nat := x ^^^ 9223372036854775808

theorem flp_eq {x : Nat} (h : x < 18446744073709551616) : flp x = double.word (!sg x) (rg x) := by
  have h1 : flp x % 2 ^ 63 = x % 2 ^ 63 := by
    unfold flp
    rw [Nat.xor_mod_two_pow, show 9223372036854775808 % 2 ^ 63 = 0 from rfl, Nat.xor_zero]
  have h2 : flp x / 2 ^ 63 = x / 2 ^ 63 ^^^ 1 := by
    unfold flp
    rw [Nat.xor_div_two_pow, show 9223372036854775808 / 2 ^ 63 = 1 from rfl]
  rw [d_word]
  unfold sg rg
  by_cases c : x < 9223372036854775808
  · rw [show x / 9223372036854775808 % 2 = 0 by omega]
    rw [show x / 2 ^ 63 = 0 by omega] at h2
    simp only [show ((0 : Nat) == 1) = false from rfl, Bool.not_false, if_true]
    have h3 : (0 ^^^ 1 : Nat) = 1 := rfl
    omega
  · rw [show x / 9223372036854775808 % 2 = 1 by omega]
    rw [show x / 2 ^ 63 = 1 by omega] at h2
    simp only [show ((1 : Nat) == 1) = true from rfl, Bool.not_true, Bool.false_eq_true, if_false]
    have h3 : (1 ^^^ 1 : Nat) = 0 := rfl
    omega

theorem rg_lt (x : Nat) : rg x < 9223372036854775808 := Nat.mod_lt _ (by omega)
theorem flp_lt {x : Nat} (h : x < 18446744073709551616) : flp x < 18446744073709551616 := by
  have := rg_lt x
  rw [flp_eq h, d_word]
  split <;> omega
theorem sg_flp {x : Nat} (h : x < 18446744073709551616) : sg (flp x) = !sg x := by rw [flp_eq h, sg_word (rg_lt x)]
theorem rg_flp {x : Nat} (h : x < 18446744073709551616) : rg (flp x) = rg x := by rw [flp_eq h, rg_word (rg_lt x)]
theorem nan_flp {x : Nat} (h : x < 18446744073709551616) : nan (flp x) = nan x := by unfold nan; rw [rg_flp h]
theorem num_flp {x : Nat} (h : Num x) : Num (flp x) := ⟨flp_lt h.1, by rw [rg_flp h.1]; exact h.2⟩
theorem ival_flp {x : Nat} (h : x < 18446744073709551616) : ival (flp x) = -ival x := by
  unfold ival
  rw [sg_flp h, rg_flp h]
  cases sg x <;> simp
theorem key_flp {x : Nat} (h : x < 18446744073709551616) : key (flp x) = -key x := by
  unfold key
  rw [ival_flp h, sg_flp h, rg_flp h]
  by_cases hz : rg x = 0
  · rw [if_pos hz, if_pos hz]
    cases sg x <;> simp <;> omega
  · rw [if_neg hz, if_neg hz]
    omega
theorem flp_word {s : Bool} {r : Nat} (h : r ≤ 9218868437227405312) : flp (double.word s r) = double.word (!s) r := by
  rw [flp_eq (num_word h).1, sg_word (by omega), rg_word (by omega)]

theorem read_flp {x : Nat} (h : x < 18446744073709551616) : double.read (flp x) = (double.read x).opposite := by
  rw [read_eq, read_eq, sg_flp h, rg_flp h]
  by_cases h1 : rg x < 4503599627370496
  · rw [if_pos h1, if_pos h1]; rfl
  · rw [if_neg h1, if_neg h1]
    by_cases h2 : rg x < 9218868437227405312
    · rw [if_pos h2, if_pos h2]; rfl
    · rw [if_neg h2, if_neg h2]
      by_cases h3 : rg x = 9218868437227405312
      · rw [if_pos h3, if_pos h3]; rfl
      · rw [if_neg h3, if_neg h3]; rfl

theorem nearest_flp (s : Bool) (m : Nat) (p : Int) : double.nearest (!s) m p = flp (double.nearest s m p) := by
  by_cases h : m = 0
  · subst h
    rw [nearest_zero, nearest_zero, flp_word (by omega)]
  · rw [nearest_eq _ _ h, nearest_eq _ _ h, flp_word (Nat.min_le_right _ _)]

theorem minK_flp {a b : Nat} (ha : Num a) (hb : Num b) : minK (flp a) (flp b) = flp (maxK a b) := by
  unfold minK maxK
  rw [key_flp ha.1, key_flp hb.1]
  by_cases h : key a ≤ key b
  · rw [if_pos h]
    by_cases h2 : key a = key b
    · rw [if_pos (by omega), key_inj ha.1 hb.1 h2]
    · rw [if_neg (by omega)]
  · rw [if_neg h, if_pos (by omega)]

theorem maxK_flp {a b : Nat} (ha : Num a) (hb : Num b) : maxK (flp a) (flp b) = flp (minK a b) := by
  unfold minK maxK
  rw [key_flp ha.1, key_flp hb.1]
  by_cases h : key a ≤ key b
  · rw [if_pos h]
    by_cases h2 : key a = key b
    · rw [if_pos (by omega), key_inj ha.1 hb.1 h2]
    · rw [if_neg (by omega)]
  · rw [if_neg h, if_pos (by omega)]

/-! ### the mirror -/

/-- y mirrors x: the sign turned, or both are zeros -/
def Mir (x y : Nat) : Prop := y = flp x ∨ (rg x = 0 ∧ rg y = 0)
def MirO (o o' : Option Nat) : Prop := match o, o' with | none, none => True | some x, some y => Mir x y | _, _ => False

theorem Mir.rg {x y : Nat} (hx : x < 18446744073709551616) (h : Mir x y) : rg y = rg x := by
  rcases h with rfl | ⟨h1, h2⟩
  · exact rg_flp hx
  · omega

theorem read_zero {x : Nat} (h : rg x = 0) : double.read x = .number (sg x) 0 (-1074) := by
  rw [read_eq, if_pos (by omega), h]

theorem signed_neg (s : Bool) (m u : Nat) : signed (!s) m u = -signed s m u := by
  unfold signed
  cases s <;> simp

theorem signed_nil (s : Bool) (u : Nat) : signed s 0 u = 0 := by
  unfold signed
  cases s <;> simp

/-- two numbers of one place whose values are opposite, and two that are opposite: their sums mirror -/
theorem sum_mir {s s' t : Bool} {m m' n : Nat} {i j : Int} (h : ∀ u, signed s' m' u = -signed s m u) :
    MirO (((Datum.number s m i).sum (.number t n j)).map double.write) (((Datum.number s' m' i).sum (.number (!t) n j)).map double.write) := by
  simp only [Datum.sum, Option.map_some, MirO]
  rw [h, signed_neg t]
  have e : -signed s m (i - min i j).toNat + -signed t n (j - min i j).toNat = -(signed s m (i - min i j).toNat + signed t n (j - min i j).toNat) := by omega
  rw [e]
  generalize signed s m (i - min i j).toNat + signed t n (j - min i j).toNat = tot
  by_cases hz : tot = 0
  · subst hz
    simp only [Int.neg_zero, if_true, Int.natAbs_zero, Format.write]
    right
    rw [nearest_zero, nearest_zero]
    exact ⟨rg_word (by omega), rg_word (by omega)⟩
  · left
    have hz' : ¬ -tot = 0 := by omega
    simp only [hz, hz', if_false, Format.write, Int.natAbs_neg]
    rw [← nearest_flp]
    congr 1
    by_cases hp : tot < 0
    · have : ¬ -tot < 0 := by omega
      rw [decide_eq_true hp, decide_eq_false this]
      rfl
    · have : -tot < 0 := by omega
      rw [decide_eq_false hp, decide_eq_true this]
      rfl

theorem write_flp_inf (s : Bool) : double.write (.infinity (!s)) = flp (double.write (.infinity s)) := by
  rw [write_inf, write_inf, flp_word (Nat.le_refl _)]

theorem add_mir {x x' y : Nat} (hx : Num x) (hx' : Num x') (hy : Num y) (h : Mir x x') : MirO (double.add x y) (double.add x' (flp y)) := by
  unfold Format.add
  rw [read_flp hy.1]
  rcases h with rfl | ⟨z1, z2⟩
  · rw [read_flp hx.1]
    by_cases fx : rg x < 9218868437227405312
    · obtain ⟨m, e, hr, _⟩ := read_fin fx
      rw [hr]
      by_cases fy : rg y < 9218868437227405312
      · obtain ⟨n, f, hs, _⟩ := read_fin fy
        rw [hs]
        exact sum_mir fun u => signed_neg _ _ _
      · rw [read_inf (by have := hy.2; omega)]
        exact Or.inl (write_flp_inf _)
    · rw [read_inf (by have := hx.2; omega)]
      by_cases fy : rg y < 9218868437227405312
      · obtain ⟨n, f, hs, _⟩ := read_fin fy
        rw [hs]
        exact Or.inl (write_flp_inf _)
      · rw [read_inf (by have := hy.2; omega)]
        simp only [Datum.opposite, Datum.sum]
        cases sg x <;> cases sg y <;> simp [MirO] <;> first | exact Or.inl (write_flp_inf true) | exact Or.inl (write_flp_inf false)
  · rw [read_zero z1, read_zero z2]
    by_cases fy : rg y < 9218868437227405312
    · obtain ⟨n, f, hs, _⟩ := read_fin fy
      rw [hs]
      exact sum_mir fun u => by rw [signed_nil, signed_nil]; rfl
    · rw [read_inf (by have := hy.2; omega)]
      exact Or.inl (write_flp_inf _)

end Go.Proofs.Qxb6627523a
