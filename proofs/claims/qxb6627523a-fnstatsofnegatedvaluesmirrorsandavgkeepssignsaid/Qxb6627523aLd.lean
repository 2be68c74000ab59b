/-
  Seat b6627523a: the plain law of the sign: values above 0 have a mean above 0. No Go text here.
-/
import Derived.Test.Qxb6627523aLc
namespace Go.Proofs.Qxb6627523a
open Fl Ieee

theorem near_sg (neg : Bool) (mag : Nat) (p : Int) : sg (double.nearest neg mag p) = neg := by
  by_cases h : mag = 0
  · subst h
    rw [nearest_zero, sg_word (by omega)]
  · rw [nearest_eq neg p h, sg_word (by have := Nat.min_le_right (rung0 mag p) 9218868437227405312; omega)]

theorem near_rg {neg : Bool} {mag : Nat} {p : Int} (h : mag ≠ 0) : rg (double.nearest neg mag p) = min (rung0 mag p) 9218868437227405312 := by
  rw [nearest_eq neg p h, rg_word (by have := Nat.min_le_right (rung0 mag p) 9218868437227405312; omega)]

theorem near_ge {neg : Bool} {mag a b r : Nat} (hr : r ≤ 9218868437227405312) (hv : V r * 2 ^ a ≤ mag * 2 ^ b) : r ≤ rg (double.nearest neg mag (-1074 + (b : Int) - (a : Int))) := by
  by_cases h : mag = 0
  · subst h
    rw [Nat.zero_mul] at hv
    have h0 : V r = 0 := by
      rcases Nat.mul_eq_zero.1 (Nat.le_zero.1 hv) with h | h
      · exact h
      · have := Nat.two_pow_pos a; omega
    rw [V_inj (h0.trans V_zero.symm)]
    omega
  · rw [near_rg h]
    have := rung_ge h hv
    omega

theorem near_le {neg : Bool} {mag a b r : Nat} (hv : mag * 2 ^ b ≤ V r * 2 ^ a) : rg (double.nearest neg mag (-1074 + (b : Int) - (a : Int))) ≤ r := by
  by_cases h : mag = 0
  · subst h
    rw [nearest_zero, rg_word (by omega)]
    omega
  · rw [near_rg h]
    have := rung_le h hv
    omega

theorem signed_false (m u : Nat) : signed false m u = ((m * 2 ^ u : Nat) : Int) := by
  unfold signed
  rw [Nat.shiftLeft_eq]
  rfl

theorem add_pos {x y : Nat} (hx : Num x) (hy : Num y) (sx : sg x = false) (sy : sg y = false) :
    ∃ z, double.add x y = some z ∧ Num z ∧ sg z = false ∧ (∀ r, r ≤ 9218868437227405312 → V r ≤ V (rg x) + V (rg y) → r ≤ rg z) ∧ (∀ r, V (rg x) + V (rg y) ≤ V r → rg z ≤ r) := by
  by_cases fx : rg x < 9218868437227405312
  · by_cases fy : rg y < 9218868437227405312
    · obtain ⟨m, e, hr, hm, _⟩ := read_fin fx
      obtain ⟨n, f, hs, hn, _⟩ := read_fin fy
      rw [sx] at hr
      rw [sy] at hs
      have hadd : double.add x y = some (double.nearest false (m * 2 ^ (e - min e f) + n * 2 ^ (f - min e f)) (-1074 + ((min e f : Nat) : Int) - ((0 : Nat) : Int))) := by
        unfold Format.add
        rw [hr, hs]
        simp only [Datum.sum, Option.map_some]
        have e1 : (-1074 + (e : Int) - min (-1074 + (e : Int)) (-1074 + (f : Int))).toNat = e - min e f := by omega
        have e2 : (-1074 + (f : Int) - min (-1074 + (e : Int)) (-1074 + (f : Int))).toNat = f - min e f := by omega
        have e3 : min (-1074 + (e : Int)) (-1074 + (f : Int)) = -1074 + ((min e f : Nat) : Int) - ((0 : Nat) : Int) := by omega
        rw [e1, e2, e3, signed_false, signed_false, ← Int.natCast_add, Int.natAbs_natCast]
        generalize m * 2 ^ (e - min e f) + n * 2 ^ (f - min e f) = tot
        have e4 : (if ((tot : Nat) : Int) = 0 then (false && false) else decide (((tot : Nat) : Int) < 0)) = false := by
          split
          · rfl
          · rw [decide_eq_false_iff_not]; omega
        rw [e4]
        rfl
      have htot : (m * 2 ^ (e - min e f) + n * 2 ^ (f - min e f)) * 2 ^ (min e f) = V (rg x) + V (rg y) := by
        rw [Nat.add_mul, Nat.mul_assoc, Nat.mul_assoc, ← Nat.pow_add, ← Nat.pow_add, Nat.sub_add_cancel (Nat.min_le_left _ _), Nat.sub_add_cancel (Nat.min_le_right _ _), hm, hn]
      refine ⟨_, hadd, write_num _ _ _, near_sg _ _ _, fun r hr' hv => ?_, fun r hv => ?_⟩
      · exact near_ge hr' (by rw [htot, Nat.pow_zero, Nat.mul_one]; exact hv)
      · exact near_le (by rw [htot, Nat.pow_zero, Nat.mul_one]; exact hv)
    · have iy : rg y = 9218868437227405312 := by have := hy.2; omega
      obtain ⟨m, e, hr, hm, _⟩ := read_fin fx
      refine ⟨double.word false 9218868437227405312, ?_, num_word (Nat.le_refl _), sg_word (by omega), fun r hr' _ => ?_, fun r hv => ?_⟩
      · unfold Format.add
        rw [hr, read_inf iy, sy]
        rfl
      · rw [rg_word (by omega)]; exact hr'
      · rw [rg_word (by omega)]
        apply Nat.le_of_not_lt
        intro hc
        have := V_lt hc
        rw [iy] at hv
        omega
  · have ix : rg x = 9218868437227405312 := by have := hx.2; omega
    refine ⟨double.word false 9218868437227405312, ?_, num_word (Nat.le_refl _), sg_word (by omega), fun r hr' _ => ?_, fun r hv => ?_⟩
    · unfold Format.add
      rw [read_inf ix, sx]
      by_cases fy : rg y < 9218868437227405312
      · obtain ⟨n, f, hs, hn, _⟩ := read_fin fy
        rw [hs]
        rfl
      · rw [read_inf (by have := hy.2; omega), sy]
        rfl
    · rw [rg_word (by omega)]; exact hr'
    · rw [rg_word (by omega)]
      apply Nat.le_of_not_lt
      intro hc
      have := V_lt hc
      rw [ix] at hv
      omega

theorem scale_down {a b : Nat} (h : a * 18446744073709551616 ≤ b) : a * 2 ^ 116 ≤ b * 4503599627370496 := by
  rw [show (2 : Nat) ^ 116 = 18446744073709551616 * 4503599627370496 by decide, ← Nat.mul_assoc]
  exact Nat.mul_le_mul_right _ h

theorem sc_pos {v : Nat} (hv : Num v) (sv : sg v = false) : sg (sc v) = false ∧ ∀ r, r ≤ 9218868437227405312 → V r * 18446744073709551616 ≤ V (rg v) → r ≤ rg (sc v) := by
  by_cases f : rg v < 9218868437227405312
  · obtain ⟨m, e, hr, hm, _⟩ := read_fin f
    rw [sv] at hr
    have hmul : double.mul v 4318952042648305664 = some (double.nearest false (m * 4503599627370496) (-1074 + (e : Int) - ((116 : Nat) : Int))) := by
      unfold Format.mul
      rw [read_down, hr]
      simp only [Datum.product, Option.map_some, Format.write, Bool.xor_false]
      congr 2
    have h := Option.some.inj ((sc_some hv).symm.trans hmul)
    rw [h]
    refine ⟨near_sg _ _ _, fun r hr' hle => near_ge hr' ?_⟩
    rw [Nat.mul_right_comm, hm]
    exact scale_down hle
  · have i : rg v = 9218868437227405312 := by have := hv.2; omega
    have h1 : sc v = v := by
      have := sc_some hv
      rw [inf_mul hv i read_down (by omega)] at this
      exact (Option.some.inj this).symm
    rw [h1]
    exact ⟨sv, fun r hr' _ => by omega⟩

theorem V_double (r : Nat) : ∃ r', V r' = 2 * V r := by
  by_cases h : r < 4503599627370496
  · by_cases h2 : 2 * r < 4503599627370496
    · exact ⟨2 * r, by rw [V_lo h2, V_lo h]⟩
    · refine ⟨(0 + 1) * 4503599627370496 + (2 * r - 4503599627370496), ?_⟩
      rw [V_hi (by omega), V_lo h]
      omega
  · obtain ⟨q, p, hp, rfl⟩ := rung_split (r := r) (by omega)
    refine ⟨(q + 1 + 1) * 4503599627370496 + p, ?_⟩
    rw [V_hi hp, V_hi hp, Nat.pow_succ, ← Nat.mul_assoc, Nat.mul_comm]

theorem V_times (n k : Nat) (h : n < 4503599627370496) : ∃ r, V r = n * 2 ^ k := by
  induction k with
  | zero => exact ⟨n, by rw [V_lo h, Nat.pow_zero, Nat.mul_one]⟩
  | succ k ih =>
    obtain ⟨r, hr⟩ := ih
    obtain ⟨r', hr'⟩ := V_double r
    exact ⟨r', by rw [hr', hr, Nat.pow_succ, Nat.mul_comm 2, Nat.mul_assoc]⟩

theorem V_pow (q : Nat) : V ((q + 1) * 4503599627370496) = 4503599627370496 * 2 ^ q := by
  have := V_hi (q := q) (p := 0) (by omega)
  rw [Nat.add_zero, Nat.add_zero] at this
  exact this
theorem under_top {n a b : Nat} (h : n ≤ 65536) (hab : a < b) : n * 2 ^ a < V ((b + 1) * 4503599627370496) := by
  have h1 : 2 ^ a ≤ 2 ^ b := Nat.pow_le_pow_right (by omega) (by omega)
  have h2 : n * 2 ^ a ≤ 65536 * 2 ^ b := Nat.mul_le_mul h h1
  have h3 := Nat.two_pow_pos b
  rw [V_pow]
  omega

/-- what float64(n) reads as -/
theorem read_fl {n k : Nat} (hk : k = 1074) (h1 : n ≠ 0) (h2 : n ≤ 65536) : ∃ m e : Nat, double.read (fl n) = .number false m (-1074 + (e : Int)) ∧ m * 2 ^ e = n * 2 ^ k ∧ m ≠ 0 := by
  obtain ⟨r, hr⟩ := V_times n k (by omega)
  have hlt : r < 9218868437227405312 := by
    apply Nat.lt_of_not_le
    intro hc
    have h3 := V_le hc
    have h4 := under_top (n := n) (a := k) (b := 2046) h2 (by omega)
    rw [show (2046 + 1) * 4503599627370496 = 9218868437227405312 from rfl] at h4
    rw [hr] at h3
    exact absurd h3 (Nat.not_le.2 h4)
  have hfl : fl n = double.word false r := by
    have h3 : fl n = double.nearest (decide ((n : Int) < 0)) n 0 := rfl
    rw [h3, show decide ((n : Int) < 0) = false by rw [decide_eq_false_iff_not]; omega]
    have := nearest_exact (neg := false) (mag := n) (a := 0) (b := k) (r := r) (by omega) (by rw [hr, Nat.pow_zero, Nat.mul_one])
    rw [← this, show (-1074 + (k : Int) - ((0 : Nat) : Int)) = 0 by omega]
  have hsg : sg (fl n) = false := by rw [hfl, sg_word (by omega)]
  have hrg : rg (fl n) = r := by rw [hfl, rg_word (by omega)]
  obtain ⟨m, e, ha, hb, _, hc⟩ := read_fin (x := fl n) (by rw [hrg]; exact hlt)
  rw [hsg] at ha
  rw [hrg, hr] at hb
  refine ⟨m, e, ha, hb, fun h0 => ?_⟩
  subst h0
  rw [Nat.zero_mul] at hb
  rcases Nat.mul_eq_zero.1 hb.symm with h | h
  · exact h1 h
  · exact absurd h (Nat.ne_of_gt (Nat.two_pow_pos _))

theorem le_times {a b : Nat} (h : a ≤ b) (k : Nat) : a * k ≤ b * k := Nat.mul_le_mul_right k h

theorem div_pos {x n : Nat} (hx : Num x) (sx : sg x = false) (h1 : n ≠ 0) (h2 : n ≤ 65536) (h : n ≤ V (rg x)) : ∃ z, double.div x (fl n) = some z ∧ Num z ∧ sg z = false ∧ rg z ≠ 0 := by
  obtain ⟨k, hk⟩ : ∃ k : Nat, k = 1074 := ⟨_, rfl⟩
  obtain ⟨m', e', hc, hv, hm'⟩ := read_fl hk h1 h2
  by_cases f : rg x < 9218868437227405312
  · obtain ⟨m, e, hr, hm, _⟩ := read_fin f
    rw [sx] at hr
    have hm0 : m ≠ 0 := by
      intro h0
      subst h0
      omega
    obtain ⟨more, hmore⟩ : ∃ more, more = 52 + 2 + m'.log2 - m.log2 := ⟨_, rfl⟩
    have hdiv : double.div x (fl n) = some (double.nearest false (2 * ((m <<< more) / m') + ((m <<< more) % m' != 0).toNat) (-1074 + ((k + e : Nat) : Int) - ((e' + more + 1 : Nat) : Int))) := by
      unfold Format.div
      rw [hr, hc]
      simp only [Datum.quotient, d_frac]
      rw [if_neg hm', ← hmore]
      simp only [Option.map_some, Format.write, Bool.xor_false]
      congr 2
      omega
    refine ⟨_, hdiv, write_num _ _ _, near_sg _ _ _, ?_⟩
    have hge : 1 ≤ rg (double.nearest false (2 * ((m <<< more) / m') + ((m <<< more) % m' != 0).toNat) (-1074 + ((k + e : Nat) : Int) - ((e' + more + 1 : Nat) : Int))) := by
      apply near_ge (by omega)
      rw [V_lo (by omega), Nat.one_mul, Nat.shiftLeft_eq]
      by_cases hd : k + e ≤ e' + more
      · obtain ⟨d, hd⟩ : ∃ d, e' + more = k + e + d := ⟨e' + more - (k + e), by omega⟩
        have hQ : 2 ^ d ≤ m * 2 ^ more / m' := by
          rw [Nat.le_div_iff_mul_le (by omega)]
          have h3 : m' * 2 ^ e' ≤ m * 2 ^ e * 2 ^ k := by
            have h0 := Nat.mul_le_mul_right (2 ^ k) h
            rw [hv, hm]
            exact h0
          have h4 : m' * 2 ^ e' * 2 ^ more ≤ m * 2 ^ e * 2 ^ k * 2 ^ more := le_times h3 _
          have h5 : m' * 2 ^ e' * 2 ^ more = 2 ^ d * m' * 2 ^ (k + e) := by
            rw [Nat.mul_assoc, ← Nat.pow_add, hd, Nat.pow_add, Nat.mul_comm (2 ^ (k + e)), ← Nat.mul_assoc, Nat.mul_comm m']
          have h6 : m * 2 ^ e * 2 ^ k * 2 ^ more = m * 2 ^ more * 2 ^ (k + e) := by
            rw [Nat.mul_right_comm, Nat.mul_right_comm m, Nat.mul_assoc, ← Nat.pow_add, Nat.add_comm e]
          rw [h5, h6] at h4
          exact Nat.le_of_mul_le_mul_right h4 (Nat.two_pow_pos _)
        have e1 : 2 ^ (e' + more + 1) = 2 * 2 ^ d * 2 ^ (k + e) := by
          rw [hd, Nat.pow_succ, Nat.pow_add _ (k + e), Nat.mul_comm, Nat.mul_comm (2 ^ (k + e)), Nat.mul_assoc]
        rw [e1]
        exact Nat.mul_le_mul_right _ (Nat.le_trans (Nat.mul_le_mul_left 2 hQ) (Nat.le_add_right _ _))
      · have h3 : 1 ≤ 2 * (m * 2 ^ more / m') + ((m * 2 ^ more) % m' != 0).toNat := by
          have hD : 0 < m * 2 ^ more := Nat.mul_pos (by omega) (Nat.two_pow_pos _)
          by_cases hz : (m * 2 ^ more) % m' = 0
          · have := Nat.div_add_mod (m * 2 ^ more) m'
            rw [hz, Nat.add_zero] at this
            have hq : m * 2 ^ more / m' ≠ 0 := by
              intro h0
              rw [h0, Nat.mul_zero] at this
              omega
            omega
          · rw [show ((m * 2 ^ more) % m' != 0) = true by simpa using hz]
            simp
        calc 2 ^ (e' + more + 1) ≤ 2 ^ (k + e) := Nat.pow_le_pow_right (by omega) (by omega)
          _ ≤ _ := Nat.le_mul_of_pos_left _ h3
    omega
  · have i : rg x = 9218868437227405312 := by have := hx.2; omega
    refine ⟨double.word false 9218868437227405312, ?_, num_word (Nat.le_refl _), sg_word (by omega), by rw [rg_word (by omega)]; omega⟩
    unfold Format.div
    rw [hc, read_inf i, sx]
    rfl

theorem up_pos {x : Nat} (hx : Num x) (sx : sg x = false) (h : rg x ≠ 0) : ∃ z, double.mul x 4895412794951729152 = some z ∧ Num z ∧ sg z = false ∧ rg z ≠ 0 := by
  by_cases f : rg x < 9218868437227405312
  · obtain ⟨m, e, hr, hm, _, hz⟩ := read_fin f
    rw [sx] at hr
    have hmul : double.mul x 4895412794951729152 = some (double.nearest false (m * 4503599627370496) (-1074 + ((e + 12 : Nat) : Int) - ((0 : Nat) : Int))) := by
      unfold Format.mul
      rw [read_up, hr]
      simp only [Datum.product, Option.map_some, Format.write, Bool.xor_false]
      congr 2
      omega
    refine ⟨_, hmul, write_num _ _ _, near_sg _ _ _, ?_⟩
    have : 1 ≤ rg (double.nearest false (m * 4503599627370496) (-1074 + ((e + 12 : Nat) : Int) - ((0 : Nat) : Int))) := by
      apply near_ge (by omega)
      rw [V_lo (by omega)]
      have : m ≠ 0 := fun h0 => h (hz h0)
      have h3 : 0 < m * 4503599627370496 * 2 ^ (e + 12) := Nat.mul_pos (by omega) (Nat.two_pow_pos _)
      omega
    omega
  · have i : rg x = 9218868437227405312 := by have := hx.2; omega
    exact ⟨x, inf_mul hx i read_up (by omega), hx, sx, h⟩

/-- what is known of the fold over values above 0 -/
structure Pos (T : Tot) : Prop where
  all : T.n ≠ 0 → T.n ≤ 65536 → ∃ s t, T.s = some s ∧ T.t = some t ∧ Num s ∧ Num t ∧ sg s = false ∧ sg t = false ∧ T.n ≤ rg s ∧ (rg s ≤ 101 * 4503599627370496 + T.n ∨ 68719476736 ≤ rg t)

theorem V_top {n : Nat} (h : n < 4503599627370496) : V (101 * 4503599627370496 + n) = (4503599627370496 + n) * 1267650600228229401496703205376 := by
  rw [show 101 * 4503599627370496 + n = (100 + 1) * 4503599627370496 + n from rfl, V_hi h]

theorem sc_big {v : Nat} (hv : Num v) (sv : sg v = false) (h : 1267650600228229401496703205376 ≤ V (rg v)) : 68719476736 ≤ rg (sc v) := by
  apply (sc_pos hv sv).2 _ (by omega)
  rw [V_lo (by omega)]
  omega

theorem pos_step {T : Tot} (h : Pos T) {v : Nat} (hv : v < 18446744073709551616) (hp : nan v = false → 0 < ival v) : Pos (T.step v) := by
  unfold Tot.step
  by_cases hn : nan v = true
  · rw [if_pos hn]; exact h
  · rw [if_neg hn]
    have hn : nan v = false := by simpa using hn
    have nv := num_of hv hn
    have hi := hp hn
    have sv : sg v = false := by
      cases e : sg v with
      | false => rfl
      | true => unfold ival at hi; rw [e, if_pos rfl] at hi; omega
    have rv : rg v ≠ 0 := fun e => by rw [ival_eq_zero.2 e] at hi; omega
    have Vv := V_pos rv
    unfold Tot.take
    by_cases hz : T.n = 0
    · rw [if_pos hz]
      refine ⟨fun _ _ => ⟨v, sc v, rfl, rfl, nv, sc_num nv, sv, (sc_pos nv sv).1, by show 1 ≤ rg v; omega, ?_⟩⟩
      by_cases hb : 1267650600228229401496703205376 ≤ V (rg v)
      · exact Or.inr (sc_big nv sv hb)
      · left
        apply Nat.le_of_not_lt
        intro hc
        have := V_lt hc
        rw [V_top (by show 1 < _; omega)] at this
        omega
    · rw [if_neg hz]
      refine ⟨fun _ hle => ?_⟩
      have hle : T.n + 1 ≤ 65536 := hle
      obtain ⟨s, t, es, et, ns, nt, ss, st, hns, hor⟩ := h.all hz (by omega)
      obtain ⟨s', as, ns', ss', ge1, le1⟩ := add_pos ns nv ss sv
      obtain ⟨t', at', nt', st', ge2, le2⟩ := add_pos nt (sc_num nv) st (sc_pos nv sv).1
      refine ⟨s', t', ?_, ?_, ns', nt', ss', st', ?_, ?_⟩
      · show addO T.s v = _
        rw [es]; exact as
      · show addO T.t (sc v) = _
        rw [et]; exact at'
      · show T.n + 1 ≤ rg s'
        apply ge1 _ (by omega)
        have := V_le hns
        rw [V_lo (by omega)] at this
        rw [V_lo (by omega)]
        omega
      · show rg s' ≤ 101 * 4503599627370496 + (T.n + 1) ∨ _
        by_cases hb : 1267650600228229401496703205376 ≤ V (rg v)
        · right
          apply ge2 _ (by omega)
          exact Nat.le_trans (V_le (sc_big nv sv hb)) (Nat.le_add_left _ _)
        · rcases hor with hor | hor
          · left
            apply le1
            have h3 := V_le hor
            rw [V_top (by omega)] at h3
            rw [V_top (by omega)]
            omega
          · right
            apply ge2 _ (by omega)
            exact Nat.le_trans (V_le hor) (Nat.le_add_right _ _)

theorem pos_fold : ∀ (zs : List Nat) (T : Tot), Pos T → (∀ z ∈ zs, z < 18446744073709551616) → (∀ z ∈ zs, nan z = false → 0 < ival z) → Pos (zs.foldl Tot.step T)
  | [], _, h, _, _ => h
  | v :: zs, T, h, hz, hp => pos_fold zs (T.step v) (pos_step h (hz v (List.mem_cons_self ..)) (hp v (List.mem_cons_self ..))) (fun z hm => hz z (List.mem_cons_of_mem _ hm)) fun z hm => hp z (List.mem_cons_of_mem _ hm)

/-- the mean of values above 0 is above 0 -/
theorem mean_pos {zs : List Nat} (hz : ∀ z ∈ zs, z < 18446744073709551616) (hp : ∀ z ∈ zs, nan z = false → 0 < ival z) (h1 : (stats zs).n ≠ 0) (h2 : (stats zs).n ≤ 65536) : ∃ a, meanO (stats zs) = some a ∧ Num a ∧ 0 < ival a := by
  have hP : Pos (stats zs) := pos_fold zs _ ⟨fun h => absurd rfl h⟩ hz hp
  obtain ⟨s, t, es, et, ns, nt, ss, st, hns, hor⟩ := hP.all h1 h2
  have fin : ∀ {a : Nat}, sg a = false → rg a ≠ 0 → 0 < ival a := fun {a} h3 h4 => by
    have := V_pos h4
    unfold ival
    rw [h3, if_neg (by simp)]
    omega
  unfold meanO
  rw [if_neg h1, es, et]
  simp only [Option.bind_some]
  by_cases hi : rg s = 9218868437227405312
  · rw [if_pos hi]
    have ht : 68719476736 ≤ rg t := by omega
    obtain ⟨q, e1, nq, sq, rq⟩ := div_pos nt st h1 h2 (by have := V_le ht; rw [V_lo (by omega)] at this; omega)
    obtain ⟨z, e2, nz, sz, rz⟩ := up_pos nq sq rq
    rw [e1]
    exact ⟨z, e2, nz, fin sz rz⟩
  · rw [if_neg hi]
    obtain ⟨q, e1, nq, sq, rq⟩ := div_pos ns ss h1 h2 (by have := V_le hns; rw [V_lo (by omega)] at this; omega)
    exact ⟨q, e1, nq, fin sq rq⟩

end Go.Proofs.Qxb6627523a
