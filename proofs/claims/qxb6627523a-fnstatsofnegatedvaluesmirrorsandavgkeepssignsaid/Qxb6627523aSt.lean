/-
  Seat b6627523a: what Stats computes, plainly: a fold over the values; a NaN changes nothing. No Go text here.
-/
import Derived.Test.Qxb6627523aFl2
namespace Go.Proofs.Qxb6627523a
open Fl Ieee

/-- the word b is what o says: just this number; or, where o is none, some NaN -/
def RelO (o : Option Nat) (b : Nat) : Prop := match o with | some r => b = r ∧ Num r | none => nan b = true ∧ b < 18446744073709551616

theorem RelO.lt {o : Option Nat} {b : Nat} (h : RelO o b) : b < 18446744073709551616 := by
  cases o with
  | none => exact h.2
  | some r => obtain ⟨rfl, h⟩ := h; exact h.1

def addO (o : Option Nat) (x : Nat) : Option Nat := o.bind fun s => double.add s x
/-- the value scaled by 2^-64 -/
def sc (v : Nat) : Nat := (double.mul v 4318952042648305664).getD 0

theorem read_down : double.read 4318952042648305664 = .number false 4503599627370496 (-116) := by decide

theorem sc_some {v : Nat} (h : Num v) : double.mul v 4318952042648305664 = some (sc v) := by
  have e : ∃ r, double.mul v 4318952042648305664 = some r := by
    unfold Format.mul
    rw [read_down]
    by_cases f : rg v < 9218868437227405312
    · obtain ⟨m, e, hr, _⟩ := read_fin f
      rw [hr]
      exact ⟨_, rfl⟩
    · rw [read_inf (by have := h.2; omega)]
      simp only [Datum.product]
      rw [if_neg (by omega)]
      exact ⟨_, rfl⟩
  obtain ⟨r, hr⟩ := e
  unfold sc
  rw [hr]
  rfl

theorem sc_num {v : Nat} (h : Num v) : Num (sc v) := mul_num (sc_some h)

theorem read_isNaN {x : Nat} (h : nan x = true) : ∃ f, double.read x = .nan (sg x) f := read_nan (by unfold nan at h; simpa using h)

theorem add_nan {x y : Nat} (h : nan x = true) : double.add x y = none := by
  obtain ⟨f, hf⟩ := read_isNaN h
  unfold Format.add
  rw [hf]
  rfl

theorem div_nan {x y : Nat} (h : nan x = true) : double.div x y = none := by
  obtain ⟨f, hf⟩ := read_isNaN h
  unfold Format.div
  rw [hf]
  rfl

theorem mul_nan {x y : Nat} (h : nan x = true) : double.mul x y = none := by
  obtain ⟨f, hf⟩ := read_isNaN h
  unfold Format.mul
  rw [hf]
  rfl

theorem RelO.add {S : Option Nat} {s0 v r : Nat} (h : RelO S s0) (hr : RelO (double.add s0 v) r) : RelO (addO S v) r := by
  cases S with
  | none => rw [add_nan h.1] at hr; exact hr
  | some s => obtain ⟨rfl, _⟩ := h; exact hr

/-- what the accumulator holds: how many values, their sum, their scaled sum, the least, the greatest -/
structure Tot where
  n : Nat
  s : Option Nat
  t : Option Nat
  mn : Nat
  mx : Nat

def Tot.zero : Tot := ⟨0, some 0, some 0, 0, 0⟩
/-- one value that is no NaN -/
def Tot.take (T : Tot) (v : Nat) : Tot := if T.n = 0 then ⟨1, some v, some (sc v), v, v⟩ else ⟨T.n + 1, addO T.s v, addO T.t (sc v), minK T.mn v, maxK T.mx v⟩
def Tot.step (T : Tot) (v : Nat) : Tot := if nan v then T else T.take v
def stats (zs : List Nat) : Tot := zs.foldl Tot.step Tot.zero

theorem stats_snoc (zs : List Nat) (v : Nat) : stats (zs ++ [v]) = (stats zs).step v := by
  unfold stats
  rw [List.foldl_append]
  rfl

/-- a NaN put in anywhere changes nothing -/
theorem stats_gap (xs ys : List Nat) {v : Nat} (h : nan v = true) : stats (xs ++ v :: ys) = stats (xs ++ ys) := by
  unfold stats
  rw [List.foldl_append, List.foldl_append, List.foldl_cons]
  congr 1
  unfold Tot.step
  rw [if_pos h]

/-- float64(n) -/
def fl (n : Nat) : Nat := FloatKind.f64.nearest (n : Int)

def meanO (T : Tot) : Option Nat :=
  if T.n = 0 then none else
  T.s.bind fun s => if rg s = 9218868437227405312 then (T.t.bind fun t => double.div t (fl T.n)).bind fun q => double.mul q 4895412794951729152 else double.div s (fl T.n)

/-- what zzStatsSame answers -/
def sameB (x y : Nat) : Bool := if nan x || nan y then nan x && nan y else decide (x = y)

/-- the three results -/
def resMin (T : Tot) : Option Nat := if T.n = 0 then none else some T.mn
def resMax (T : Tot) : Option Nat := if T.n = 0 then none else some T.mx

end Go.Proofs.Qxb6627523a
