/-
  Seat b6627523a: the plain law of the extremes, the count and the single value. No Go text here.
-/
import Derived.Test.Qxb6627523aSt
namespace Go.Proofs.Qxb6627523a
open Fl Ieee

theorem sameB_rel {o : Option Nat} {x y : Nat} (hx : RelO o x) (hy : RelO o y) : sameB x y = true := by
  unfold sameB
  cases o with
  | none => rw [hx.1, hy.1]; rfl
  | some r =>
    obtain ⟨rfl, h⟩ := hx
    obtain ⟨rfl, _⟩ := hy
    rw [nan_of h]
    simp

/-- the last value that is no NaN -/
def lastV (zs : List Nat) : Nat := zs.foldl (fun a z => if nan z then a else z) 0

theorem lastV_snoc (zs : List Nat) (v : Nat) : lastV (zs ++ [v]) = if nan v then lastV zs else v := by
  unfold lastV
  rw [List.foldl_append]
  rfl

/-- what is known of the fold over zs -/
structure Good (zs : List Nat) : Prop where
  none : (stats zs).n = 0 → ∀ z ∈ zs, nan z = true
  mn : (stats zs).n ≠ 0 → (stats zs).mn ∈ zs ∧ Num (stats zs).mn ∧ ∀ z ∈ zs, nan z = false → key (stats zs).mn ≤ key z
  mx : (stats zs).n ≠ 0 → (stats zs).mx ∈ zs ∧ Num (stats zs).mx ∧ ∀ z ∈ zs, nan z = false → key z ≤ key (stats zs).mx
  one : (stats zs).n = 1 → (stats zs).s = some (lastV zs) ∧ (stats zs).t = some (sc (lastV zs)) ∧ Num (lastV zs)

theorem minK_key (x y : Nat) : key (minK x y) ≤ key x ∧ key (minK x y) ≤ key y ∧ (minK x y = x ∨ minK x y = y) := by
  unfold minK
  split
  · exact ⟨Int.le_refl _, by omega, Or.inl rfl⟩
  · exact ⟨by omega, Int.le_refl _, Or.inr rfl⟩
theorem maxK_key (x y : Nat) : key x ≤ key (maxK x y) ∧ key y ≤ key (maxK x y) ∧ (maxK x y = x ∨ maxK x y = y) := by
  unfold maxK
  split
  · exact ⟨by omega, Int.le_refl _, Or.inr rfl⟩
  · exact ⟨Int.le_refl _, by omega, Or.inl rfl⟩

theorem good_snoc {zs : List Nat} (h : Good zs) {v : Nat} (hv : v < 18446744073709551616) : Good (zs ++ [v]) := by
  by_cases hn : nan v = true
  · have e : stats (zs ++ [v]) = stats zs := by rw [stats_snoc]; unfold Tot.step; rw [if_pos hn]
    have e2 : lastV (zs ++ [v]) = lastV zs := by rw [lastV_snoc, if_pos hn]
    refine ⟨?_, ?_, ?_, ?_⟩
    · rw [e]
      intro hz z hzm
      rcases List.mem_append.1 hzm with h1 | h1
      · exact h.none hz z h1
      · rw [List.mem_singleton.1 h1]; exact hn
    · rw [e]
      intro hz
      obtain ⟨a, b, c⟩ := h.mn hz
      refine ⟨List.mem_append_left _ a, b, fun z hzm hnz => ?_⟩
      rcases List.mem_append.1 hzm with h1 | h1
      · exact c z h1 hnz
      · rw [List.mem_singleton.1 h1, hn] at hnz; cases hnz
    · rw [e]
      intro hz
      obtain ⟨a, b, c⟩ := h.mx hz
      refine ⟨List.mem_append_left _ a, b, fun z hzm hnz => ?_⟩
      rcases List.mem_append.1 hzm with h1 | h1
      · exact c z h1 hnz
      · rw [List.mem_singleton.1 h1, hn] at hnz; cases hnz
    · rw [e, e2]
      exact h.one
  · have hn : nan v = false := by simpa using hn
    have nv := num_of hv hn
    have e2 : lastV (zs ++ [v]) = v := by rw [lastV_snoc, if_neg (by simp [hn])]
    have e : stats (zs ++ [v]) = (stats zs).take v := by rw [stats_snoc]; unfold Tot.step; rw [if_neg (by simp [hn])]
    by_cases hz : (stats zs).n = 0
    · have e3 : stats (zs ++ [v]) = ⟨1, some v, some (sc v), v, v⟩ := by rw [e]; unfold Tot.take; rw [if_pos hz]
      have hall := h.none hz
      refine ⟨?_, ?_, ?_, ?_⟩
      · rw [e3]; intro hc; cases hc
      · rw [e3]
        intro _
        refine ⟨by simp, nv, fun z hzm hnz => ?_⟩
        rcases List.mem_append.1 hzm with h1 | h1
        · rw [hall z h1] at hnz; cases hnz
        · rw [List.mem_singleton.1 h1]; exact Int.le_refl _
      · rw [e3]
        intro _
        refine ⟨by simp, nv, fun z hzm hnz => ?_⟩
        rcases List.mem_append.1 hzm with h1 | h1
        · rw [hall z h1] at hnz; cases hnz
        · rw [List.mem_singleton.1 h1]; exact Int.le_refl _
      · rw [e3, e2]
        intro _
        exact ⟨rfl, rfl, nv⟩
    · have e3 : stats (zs ++ [v]) = ⟨(stats zs).n + 1, addO (stats zs).s v, addO (stats zs).t (sc v), minK (stats zs).mn v, maxK (stats zs).mx v⟩ := by rw [e]; unfold Tot.take; rw [if_neg hz]
      obtain ⟨a1, b1, c1⟩ := h.mn hz
      obtain ⟨a2, b2, c2⟩ := h.mx hz
      refine ⟨?_, ?_, ?_, ?_⟩
      · rw [e3]; intro hc; simp at hc
      · rw [e3]
        intro _
        obtain ⟨k1, k2, k3⟩ := minK_key (stats zs).mn v
        refine ⟨?_, minK_num b1 nv, fun z hzm hnz => ?_⟩
        · show minK _ _ ∈ _
          rcases k3 with k3 | k3 <;> rw [k3]
          · exact List.mem_append_left _ a1
          · simp
        · show key (minK _ _) ≤ _
          rcases List.mem_append.1 hzm with h1 | h1
          · have := c1 z h1 hnz; omega
          · rw [List.mem_singleton.1 h1]; exact k2
      · rw [e3]
        intro _
        obtain ⟨k1, k2, k3⟩ := maxK_key (stats zs).mx v
        refine ⟨?_, maxK_num b2 nv, fun z hzm hnz => ?_⟩
        · show maxK _ _ ∈ _
          rcases k3 with k3 | k3 <;> rw [k3]
          · exact List.mem_append_left _ a2
          · simp
        · show _ ≤ key (maxK _ _)
          rcases List.mem_append.1 hzm with h1 | h1
          · have := c2 z h1 hnz; omega
          · rw [List.mem_singleton.1 h1]; exact k2
      · rw [e3]
        intro hc
        simp only at hc
        omega

theorem good_nil : Good [] := by
  refine ⟨fun _ z h => (by cases h), fun h => absurd rfl h, fun h => absurd rfl h, fun h => ?_⟩
  simp [stats, Tot.zero] at h

theorem good_take (zs : List Nat) (hz : ∀ z ∈ zs, z < 18446744073709551616) (k : Nat) : Good (zs.take k) := by
  induction k with
  | zero => exact good_nil
  | succ k ih =>
    by_cases h : k < zs.length
    · rw [List.take_succ_eq_append_getElem h]
      exact good_snoc ih (hz _ (List.getElem_mem h))
    · rw [List.take_of_length_le (by omega)] at ih ⊢
      exact ih

theorem good_all (zs : List Nat) (hz : ∀ z ∈ zs, z < 18446744073709551616) : Good zs := by
  have := good_take zs hz zs.length
  rwa [List.take_of_length_le (Nat.le_refl _)] at this

theorem fl_one : fl 1 = 4607182418800017408 := by decide

theorem read_up : double.read 4895412794951729152 = .number false 4503599627370496 12 := by decide

theorem inf_mul {v c m : Nat} {p : Int} (hv : Num v) (hi : rg v = 9218868437227405312) (hc : double.read c = .number false m p) (hm : m ≠ 0) : double.mul v c = some v := by
  unfold Format.mul
  rw [hc, read_inf hi]
  simp only [Datum.product]
  rw [if_neg hm, Option.map_some, write_inf, Bool.xor_false, ← hi, word_self hv.1]

/-- the mean of one value is that value -/
theorem mean_one {T : Tot} {v : Nat} (hn : T.n = 1) (hs : T.s = some v) (ht : T.t = some (sc v)) (hv : Num v) : meanO T = some v := by
  unfold meanO
  rw [if_neg (by omega), hs, ht, hn, fl_one]
  simp only [Option.bind_some]
  by_cases hi : rg v = 9218868437227405312
  · rw [if_pos hi]
    have h1 : sc v = v := by
      have := sc_some hv
      rw [inf_mul hv hi read_down (by omega)] at this
      exact (Option.some.inj this).symm
    rw [h1, div_one hv]
    simp only [Option.bind_some]
    exact inf_mul hv hi read_up (by omega)
  · rw [if_neg hi]
    exact div_one hv

end Go.Proofs.Qxb6627523a
