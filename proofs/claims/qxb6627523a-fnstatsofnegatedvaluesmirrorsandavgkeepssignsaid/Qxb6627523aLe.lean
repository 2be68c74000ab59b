/-
  Seat b6627523a: the plain law of the mirror, as the walk needs it. No Go text here.
-/
import Derived.Test.Qxb6627523aLd
import Derived.Test.Qxb6627523aW2
namespace Go.Proofs.Qxb6627523a
open Fl Ieee

theorem sameB_flp {x y : Nat} (hy : y < 18446744073709551616) (h : (nan x = true ∧ nan y = true) ∨ (Num y ∧ x = flp y)) : sameB x (flp y) = true := by
  unfold sameB
  rcases h with ⟨h1, h2⟩ | ⟨h1, rfl⟩
  · rw [nan_flp hy, h1, h2]; rfl
  · rw [nan_flp hy, nan_of h1]; simp

/-- what is known of the two results -/
structure Ends (zs : List Nat) (a b d a2 b2 d2 : Nat) : Prop where
  min : sameB b2 (flp d) = true
  max : sameB d2 (flp b) = true
  avg : equalB a2 (flp a) = true
  none : (stats zs).n = 0 → nan a = true ∧ nan a2 = true
  pos : (stats zs).n ≠ 0 → (∀ z ∈ zs, nan z = false → 0 < ival z) → Num a ∧ Num a2 ∧ 0 < ival a ∧ ival a2 < 0
  neg : (stats zs).n ≠ 0 → (∀ z ∈ zs, nan z = false → ival z < 0) → Num a ∧ Num a2 ∧ ival a < 0 ∧ 0 < ival a2

theorem Mir.ival {x y : Nat} (hx : Num x) (h : Mir x y) : ival y = -ival x := by
  rcases h with rfl | ⟨h1, h2⟩
  · exact ival_flp hx.1
  · rw [ival_eq_zero.2 h1, ival_eq_zero.2 h2]; rfl

theorem ends {zs : List Nat} (hz : ∀ z ∈ zs, z < 18446744073709551616) (hN : (stats zs).n ≤ 65536) {a b d a2 b2 d2 : Nat}
    (ra : RelO (meanO (stats zs)) a) (rb : RelO (resMin (stats zs)) b) (rd : RelO (resMax (stats zs)) d)
    (ra2 : RelO (meanO (stats (zs.map flp))) a2) (rb2 : RelO (resMin (stats (zs.map flp))) b2) (rd2 : RelO (resMax (stats (zs.map flp))) d2) : Ends zs a b d a2 b2 d2 := by
  have h2 := two_all zs hz
  have hm := mean_mir h2
  have hz2 : ∀ z ∈ zs.map flp, z < 18446744073709551616 := by
    intro z h
    obtain ⟨v, hv, rfl⟩ := List.mem_map.1 h
    exact flp_lt (hz v hv)
  refine ⟨?_, ?_, ?_, ?_, ?_, ?_⟩
  · apply sameB_flp rd.lt
    by_cases h0 : (stats zs).n = 0
    · left
      unfold resMin at rb2
      rw [if_pos (h2.n.trans h0)] at rb2
      unfold resMax at rd
      rw [if_pos h0] at rd
      exact ⟨rb2.1, rd.1⟩
    · right
      unfold resMin at rb2
      rw [if_neg (by rw [h2.n]; exact h0)] at rb2
      unfold resMax at rd
      rw [if_neg h0] at rd
      obtain ⟨e1, n1⟩ := rb2
      obtain ⟨e2, n2⟩ := rd
      exact ⟨by rw [e2]; exact n2, by rw [e1, e2]; exact (h2.mx h0).2⟩
  · apply sameB_flp rb.lt
    by_cases h0 : (stats zs).n = 0
    · left
      unfold resMax at rd2
      rw [if_pos (h2.n.trans h0)] at rd2
      unfold resMin at rb
      rw [if_pos h0] at rb
      exact ⟨rd2.1, rb.1⟩
    · right
      unfold resMax at rd2
      rw [if_neg (by rw [h2.n]; exact h0)] at rd2
      unfold resMin at rb
      rw [if_neg h0] at rb
      obtain ⟨e1, n1⟩ := rd2
      obtain ⟨e2, n2⟩ := rb
      exact ⟨by rw [e2]; exact n2, by rw [e1, e2]; exact (h2.mn h0).2⟩
  · have la := ra.lt
    unfold equalB
    rw [nan_flp la]
    cases e1 : meanO (stats zs) with
    | none => cases e2 : meanO (stats (zs.map flp)) with
      | none =>
        rw [e1] at ra
        rw [e2] at ra2
        rw [ra.1, ra2.1]; rfl
      | some y => rw [e1, e2] at hm; exact hm.elim
    | some x => cases e2 : meanO (stats (zs.map flp)) with
      | none => rw [e1, e2] at hm; exact hm.elim
      | some y =>
        rw [e1] at ra
        rw [e2] at ra2
        rw [e1, e2] at hm
        obtain ⟨rfl, nx⟩ := ra
        obtain ⟨rfl, ny⟩ := ra2
        rw [nan_of nx, nan_of ny, ival_flp nx.1, Mir.ival nx hm]
        simp
  · intro h0
    unfold meanO at ra ra2
    rw [if_pos h0] at ra
    rw [if_pos (h2.n.trans h0)] at ra2
    exact ⟨ra.1, ra2.1⟩
  · intro h0 hp
    obtain ⟨x, ex, nx, px⟩ := mean_pos hz hp h0 hN
    rw [ex] at ra hm
    obtain ⟨rfl, _⟩ := ra
    cases e2 : meanO (stats (zs.map flp)) with
    | none => rw [e2] at hm; exact hm.elim
    | some y =>
      rw [e2] at hm ra2
      obtain ⟨rfl, ny⟩ := ra2
      have := Mir.ival nx hm
      exact ⟨nx, ny, px, by omega⟩
  · intro h0 hp
    have hp2 : ∀ z ∈ zs.map flp, nan z = false → 0 < ival z := by
      intro z h hn
      obtain ⟨v, hv, rfl⟩ := List.mem_map.1 h
      rw [nan_flp (hz v hv)] at hn
      rw [ival_flp (hz v hv)]
      have := hp v hv hn
      omega
    obtain ⟨y, ey, ny, py⟩ := mean_pos hz2 hp2 (by rw [h2.n]; exact h0) (by rw [h2.n]; exact hN)
    rw [ey] at ra2 hm
    obtain ⟨rfl, _⟩ := ra2
    cases e2 : meanO (stats zs) with
    | none => rw [e2] at hm; exact hm.elim
    | some x =>
      rw [e2] at hm ra
      obtain ⟨rfl, nx⟩ := ra
      have := Mir.ival nx hm
      exact ⟨nx, ny, by omega, py⟩

/-! ### counting -/

/-- how many that are no NaN have p -/
def many (p : Nat → Bool) (zs : List Nat) : Nat := zs.countP fun z => !nan z && p z
def above (z : Nat) : Bool := decide (0 < ival z)
def under (z : Nat) : Bool := decide (ival z < 0)

theorem many_take (p : Nat → Bool) (zs : List Nat) {q : Nat} (h : q < zs.length) : many p (zs.take (q + 1)) = if nan zs[q] then many p (zs.take q) else if p zs[q] then many p (zs.take q) + 1 else many p (zs.take q) := by
  unfold many
  rw [List.take_succ_eq_append_getElem h, List.countP_append, List.countP_cons, List.countP_nil]
  cases nan zs[q] <;> cases p zs[q] <;> simp

theorem stepN (T : Tot) (v : Nat) : (T.step v).n = T.n + if nan v then 0 else 1 := by
  unfold Tot.step Tot.take
  by_cases h1 : nan v = true
  · rw [if_pos h1, if_pos h1, Nat.add_zero]
  · rw [if_neg h1, if_neg h1]
    by_cases h2 : T.n = 0
    · rw [if_pos h2, h2]
    · rw [if_neg h2]

theorem many_fold (p : Nat → Bool) : ∀ (zs : List Nat) (T : Tot), T.n + many p zs ≤ (zs.foldl Tot.step T).n ∧ (T.n + many p zs = (zs.foldl Tot.step T).n → ∀ z ∈ zs, nan z = false → p z = true)
  | [], T => ⟨Nat.le_refl _, fun _ z h => by cases h⟩
  | v :: zs, T => by
    obtain ⟨h1, h2⟩ := many_fold p zs (T.step v)
    rw [stepN] at h1 h2
    have e : many p (v :: zs) = many p zs + if !nan v && p v then 1 else 0 := by
      unfold many
      rw [List.countP_cons]
    rw [e, List.foldl_cons]
    cases hn : nan v with
    | true =>
      rw [hn] at h1 h2
      simp only [if_true, Nat.add_zero] at h1 h2
      simp only [Bool.not_true, Bool.false_and, Bool.false_eq_true, if_false, Nat.add_zero]
      refine ⟨h1, fun he z hz hnz => ?_⟩
      rcases List.mem_cons.1 hz with rfl | hz
      · rw [hn] at hnz; cases hnz
      · exact h2 he z hz hnz
    | false =>
      rw [hn] at h1 h2
      simp only [Bool.false_eq_true, if_false] at h1 h2
      cases hp : p v with
      | true =>
        simp only [Bool.not_false, Bool.true_and, if_true]
        refine ⟨by omega, fun he z hz hnz => ?_⟩
        rcases List.mem_cons.1 hz with rfl | hz
        · exact hp
        · exact h2 (by omega) z hz hnz
      | false =>
        simp only [Bool.not_false, Bool.true_and, Bool.false_eq_true, if_false, Nat.add_zero]
        exact ⟨by omega, fun he => by omega⟩

theorem many_le (p : Nat → Bool) (zs : List Nat) : many p zs ≤ (stats zs).n := by
  have := (many_fold p zs Tot.zero).1
  rw [show Tot.zero.n = 0 from rfl, Nat.zero_add] at this
  exact this
theorem many_all {p : Nat → Bool} {zs : List Nat} (h : many p zs = (stats zs).n) : ∀ z ∈ zs, nan z = false → p z = true := by
  apply (many_fold p zs Tot.zero).2
  rw [show Tot.zero.n = 0 from rfl, Nat.zero_add]
  exact h

theorem gt_test {x : Nat} (h : Num x) : (double.order x 0 == some .gt) = above x := by
  rw [order_eq h.2 (by rw [rg_zero]; omega), ival_zero]
  unfold above
  rcases Int.lt_trichotomy (ival x) 0 with c | c | c
  · rw [Int.compare_eq_lt.2 c, decide_eq_false (by omega)]; rfl
  · rw [Int.compare_eq_eq.2 c, decide_eq_false (by omega)]; rfl
  · rw [Int.compare_eq_gt.2 c, decide_eq_true c]; rfl

theorem lt_test {x : Nat} (h : Num x) : (double.order x 0 == some .lt) = under x := by
  rw [order_eq h.2 (by rw [rg_zero]; omega), ival_zero]
  unfold under
  rcases Int.lt_trichotomy (ival x) 0 with c | c | c
  · rw [Int.compare_eq_lt.2 c, decide_eq_true c]; rfl
  · rw [Int.compare_eq_eq.2 c, decide_eq_false (by omega)]; rfl
  · rw [Int.compare_eq_gt.2 c, decide_eq_false (by omega)]; rfl

end Go.Proofs.Qxb6627523a
