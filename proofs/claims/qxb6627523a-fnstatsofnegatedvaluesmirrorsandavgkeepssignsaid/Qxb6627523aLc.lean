/-
  Seat b6627523a: the plain law of the mirror: the fold and the mean of the values with the sign turned. No Go text here.
-/
import Derived.Test.Qxb6627523aLb
namespace Go.Proofs.Qxb6627523a
open Fl Ieee

theorem write_opp_number (s : Bool) (m : Nat) (p : Int) : double.write (.number (!s) m p) = flp (double.write (.number s m p)) := nearest_flp s m p

theorem mul_flp {x : Nat} (h : Num x) (c : Nat) : double.mul (flp x) c = (double.mul x c).map flp := by
  unfold Format.mul
  rw [read_flp h.1]
  by_cases f : rg x < 9218868437227405312
  · obtain ⟨m, e, hr, _⟩ := read_fin f
    rw [hr]
    cases double.read c with
    | nan t g => rfl
    | infinity t =>
      simp only [Datum.opposite, Datum.product]
      split
      · rfl
      · rw [Option.map_some, Option.map_some, Option.map_some, ← write_flp_inf]
        cases t <;> cases sg x <;> rfl
    | number t n j =>
      simp only [Datum.opposite, Datum.product, Option.map_some]
      rw [← write_opp_number]
      cases t <;> cases sg x <;> rfl
  · rw [read_inf (by have := h.2; omega)]
    cases double.read c with
    | nan t g => rfl
    | infinity t =>
      simp only [Datum.opposite, Datum.product]
      rw [Option.map_some, Option.map_some, Option.map_some, ← write_flp_inf]
      cases t <;> cases sg x <;> rfl
    | number t n j =>
      simp only [Datum.opposite, Datum.product]
      split
      · rfl
      · rw [Option.map_some, Option.map_some, Option.map_some, ← write_flp_inf]
        cases t <;> cases sg x <;> rfl

theorem div_flp {x : Nat} (h : Num x) (c : Nat) : double.div (flp x) c = (double.div x c).map flp := by
  unfold Format.div
  rw [read_flp h.1]
  by_cases f : rg x < 9218868437227405312
  · obtain ⟨m, e, hr, _⟩ := read_fin f
    rw [hr]
    cases double.read c with
    | nan t g => rfl
    | infinity t =>
      simp only [Datum.opposite, Datum.quotient, Option.map_some]
      rw [← write_opp_number]
      cases t <;> cases sg x <;> rfl
    | number t n j =>
      simp only [Datum.opposite, Datum.quotient]
      by_cases hn : n = 0
      · rw [if_pos hn, if_pos hn]
        by_cases hm : m = 0
        · rw [if_pos hm, if_pos hm]; rfl
        · rw [if_neg hm, if_neg hm, Option.map_some, Option.map_some, Option.map_some, ← write_flp_inf]
          cases t <;> cases sg x <;> rfl
      · rw [if_neg hn, if_neg hn, Option.map_some, Option.map_some, Option.map_some, ← write_opp_number]
        cases t <;> cases sg x <;> rfl
  · rw [read_inf (by have := h.2; omega)]
    cases double.read c with
    | nan t g => rfl
    | infinity t => rfl
    | number t n j =>
      simp only [Datum.opposite, Datum.quotient]
      rw [Option.map_some, Option.map_some, Option.map_some, ← write_flp_inf]
      cases t <;> cases sg x <;> rfl

theorem write_nil (s : Bool) (p : Int) : rg (double.write (.number s 0 p)) = 0 := by
  show rg (double.nearest s 0 p) = 0
  rw [nearest_zero, rg_word (by omega)]

theorem mirO_map (o : Option Nat) : MirO o (o.map flp) := by
  cases o with
  | none => trivial
  | some x => exact Or.inl rfl

theorem mul_mir {x x' : Nat} (hx : Num x) (h : Mir x x') (c : Nat) : MirO (double.mul x c) (double.mul x' c) := by
  rcases h with rfl | ⟨z1, z2⟩
  · rw [mul_flp hx]
    exact mirO_map _
  · unfold Format.mul
    rw [read_zero z1, read_zero z2]
    cases double.read c with
    | nan t g => trivial
    | infinity t => trivial
    | number t n j =>
      simp only [Datum.product, Option.map_some, Nat.zero_mul]
      exact Or.inr ⟨write_nil _ _, write_nil _ _⟩

theorem div_mir {x x' : Nat} (hx : Num x) (h : Mir x x') (c : Nat) : MirO (double.div x c) (double.div x' c) := by
  rcases h with rfl | ⟨z1, z2⟩
  · rw [div_flp hx]
    exact mirO_map _
  · unfold Format.div
    rw [read_zero z1, read_zero z2]
    cases double.read c with
    | nan t g => trivial
    | infinity t => exact Or.inr ⟨write_nil _ _, write_nil _ _⟩
    | number t n j =>
      simp only [Datum.quotient]
      by_cases hn : n = 0
      · rw [if_pos hn, if_pos hn]
        trivial
      · rw [if_neg hn, if_neg hn]
        simp only [Option.map_some, Nat.zero_shiftLeft, Nat.zero_div, Nat.zero_mod, bne_self_eq_false, Bool.toNat_false, Nat.mul_zero, Nat.add_zero]
        exact Or.inr ⟨write_nil _ _, write_nil _ _⟩

theorem sc_flp {v : Nat} (h : Num v) : sc (flp v) = flp (sc v) := by
  have h1 := sc_some (num_flp h)
  rw [mul_flp h, sc_some h] at h1
  exact (Option.some.inj h1).symm

/-- none, or a number -/
def NumO (o : Option Nat) : Prop := ∀ x, o = some x → Num x

theorem addO_num (o : Option Nat) (v : Nat) : NumO (addO o v) := by
  intro x hx
  unfold addO at hx
  cases o with
  | none => cases hx
  | some s => exact add_num hx

theorem addO_mir {o o' : Option Nat} {v : Nat} (hv : Num v) (h : MirO o o') (ho : NumO o) (ho' : NumO o') : MirO (addO o v) (addO o' (flp v)) := by
  cases o with
  | none => cases o' with
    | none => trivial
    | some y => exact h.elim
  | some x => cases o' with
    | none => exact h.elim
    | some y => exact add_mir (ho x rfl) (ho' y rfl) hv h

/-- what is known of the two folds -/
structure Two (T U : Tot) : Prop where
  n : U.n = T.n
  s : MirO T.s U.s
  t : MirO T.t U.t
  s1 : NumO T.s
  s2 : NumO U.s
  t1 : NumO T.t
  t2 : NumO U.t
  mn : T.n ≠ 0 → Num T.mn ∧ U.mx = flp T.mn
  mx : T.n ≠ 0 → Num T.mx ∧ U.mn = flp T.mx

theorem numO_some {x : Nat} (h : Num x) : NumO (some x) := fun _ e => (Option.some.inj e) ▸ h

theorem num_zero : Num 0 := ⟨by omega, by rw [rg_zero]; omega⟩

theorem two_zero : Two Tot.zero Tot.zero := by
  refine ⟨rfl, Or.inr ⟨rfl, rfl⟩, Or.inr ⟨rfl, rfl⟩, numO_some num_zero, numO_some num_zero, numO_some num_zero, numO_some num_zero, fun h => absurd rfl h, fun h => absurd rfl h⟩

theorem two_step {T U : Tot} (h : Two T U) {v : Nat} (hv : v < 18446744073709551616) : Two (T.step v) (U.step (flp v)) := by
  unfold Tot.step
  rw [nan_flp hv]
  by_cases hn : nan v = true
  · rw [if_pos hn, if_pos hn]
    exact h
  · rw [if_neg hn, if_neg hn]
    have nv := num_of hv (by simpa using hn)
    unfold Tot.take
    rw [h.n]
    by_cases hz : T.n = 0
    · rw [if_pos hz, if_pos hz]
      refine ⟨rfl, Or.inl rfl, Or.inl (sc_flp nv), numO_some nv, numO_some (num_flp nv), numO_some (sc_num nv), numO_some (sc_num (num_flp nv)), fun _ => ⟨nv, rfl⟩, fun _ => ⟨nv, rfl⟩⟩
    · rw [if_neg hz, if_neg hz]
      obtain ⟨a1, b1⟩ := h.mn hz
      obtain ⟨a2, b2⟩ := h.mx hz
      refine ⟨rfl, addO_mir nv h.s h.s1 h.s2, ?_, addO_num _ _, addO_num _ _, addO_num _ _, addO_num _ _, fun _ => ⟨minK_num a1 nv, ?_⟩, fun _ => ⟨maxK_num a2 nv, ?_⟩⟩
      · show MirO (addO T.t (sc v)) (addO U.t (sc (flp v)))
        rw [sc_flp nv]
        exact addO_mir (sc_num nv) h.t h.t1 h.t2
      · show maxK U.mx (flp v) = flp (minK T.mn v)
        rw [b1]
        exact maxK_flp a1 nv
      · show minK U.mn (flp v) = flp (maxK T.mx v)
        rw [b2]
        exact minK_flp a2 nv

theorem two_fold : ∀ (zs : List Nat) (T U : Tot), Two T U → (∀ z ∈ zs, z < 18446744073709551616) → Two (zs.foldl Tot.step T) ((zs.map flp).foldl Tot.step U)
  | [], _, _, h, _ => h
  | v :: zs, T, U, h, hz => two_fold zs (T.step v) (U.step (flp v)) (two_step h (hz v (List.mem_cons_self ..))) fun z hm => hz z (List.mem_cons_of_mem _ hm)

theorem two_all (zs : List Nat) (hz : ∀ z ∈ zs, z < 18446744073709551616) : Two (stats zs) (stats (zs.map flp)) := two_fold zs _ _ two_zero hz

theorem mean_mir {T U : Tot} (h : Two T U) : MirO (meanO T) (meanO U) := by
  unfold meanO
  rw [h.n]
  by_cases hz : T.n = 0
  · rw [if_pos hz, if_pos hz]; trivial
  · rw [if_neg hz, if_neg hz]
    have hs := h.s
    have ns := h.s1
    have ht := h.t
    have nt := h.t1
    cases e1 : T.s with
    | none => cases e2 : U.s with
      | none => trivial
      | some y => rw [e1, e2] at hs; exact hs.elim
    | some x => cases e2 : U.s with
      | none => rw [e1, e2] at hs; exact hs.elim
      | some y =>
        rw [e1, e2] at hs
        rw [e1] at ns
        simp only [Option.bind_some]
        rw [Mir.rg (ns x rfl).1 hs]
        by_cases hi : rg x = 9218868437227405312
        · rw [if_pos hi, if_pos hi]
          cases e3 : T.t with
          | none => cases e4 : U.t with
            | none => trivial
            | some y => rw [e3, e4] at ht; exact ht.elim
          | some p => cases e4 : U.t with
            | none => rw [e3, e4] at ht; exact ht.elim
            | some q =>
              rw [e3, e4] at ht
              rw [e3] at nt
              simp only [Option.bind_some]
              have hd := div_mir (nt p rfl) ht (fl T.n)
              cases e5 : double.div p (fl T.n) with
              | none => cases e6 : double.div q (fl T.n) with
                | none => trivial
                | some _ => rw [e5, e6] at hd; exact hd.elim
              | some _ => cases e6 : double.div q (fl T.n) with
                | none => rw [e5, e6] at hd; exact hd.elim
                | some _ =>
                  rw [e5, e6] at hd
                  exact mul_mir (div_num e5) hd _
        · rw [if_neg hi, if_neg hi]
          exact div_mir (ns x rfl) hs _

end Go.Proofs.Qxb6627523a
