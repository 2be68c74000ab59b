/-
  Seat b6627523a: the model's doubles, plainly: a word as a sign and a rung, a rung's value as a whole number of least units; order; rounding by rungs. No Go text here.
-/
import Derived.Laws.FloatBits
namespace Go.Proofs.Qxb6627523a.Fl
open Ieee

theorem d_sign : double.signWeight = 9223372036854775808 := rfl
theorem d_bin : double.binade = 4503599627370496 := rfl
theorem d_inf : double.infRung = 9218868437227405312 := rfl
theorem d_least : double.leastPlace = -1074 := rfl
theorem d_frac : double.fractionBits = 52 := rfl
theorem d_word (s : Bool) (r : Nat) : double.word s r = if s then 9223372036854775808 + r else r := rfl

/-- the sign and the rung of a word -/
def sg (x : Nat) : Bool := x / 9223372036854775808 % 2 == 1
def rg (x : Nat) : Nat := x % 9223372036854775808
/-- the word is a NaN -/
def nan (x : Nat) : Bool := decide (9218868437227405312 < rg x)

/-- a rung's value, in units of the least place -/
def V (r : Nat) : Nat := if r < 4503599627370496 then r else (4503599627370496 + r % 4503599627370496) * 2 ^ (r / 4503599627370496 - 1)

theorem V_lo {r : Nat} (h : r < 4503599627370496) : V r = r := by unfold V; rw [if_pos h]
theorem V_hi {q p : Nat} (h : p < 4503599627370496) : V ((q + 1) * 4503599627370496 + p) = (4503599627370496 + p) * 2 ^ q := by
  unfold V
  rw [if_neg (by omega), show ((q + 1) * 4503599627370496 + p) % 4503599627370496 = p by omega, show ((q + 1) * 4503599627370496 + p) / 4503599627370496 = q + 1 by omega, Nat.add_sub_cancel]
theorem V_zero : V 0 = 0 := V_lo (by omega)

/-- every rung from the first normal one on -/
theorem rung_split {r : Nat} (h : 4503599627370496 ≤ r) : ∃ q p, p < 4503599627370496 ∧ r = (q + 1) * 4503599627370496 + p :=
  ⟨r / 4503599627370496 - 1, r % 4503599627370496, by omega, by omega⟩

theorem V_succ (r : Nat) : V r < V (r + 1) := by
  by_cases h1 : r + 1 < 4503599627370496
  · rw [V_lo h1, V_lo (by omega)]; omega
  · by_cases h2 : r < 4503599627370496
    · rw [V_lo h2, show r + 1 = (0 + 1) * 4503599627370496 + 0 by omega, V_hi (by omega)]
      omega
    · obtain ⟨q, p, hp, rfl⟩ := rung_split (r := r) (by omega)
      have hpos : 0 < 2 ^ q := Nat.two_pow_pos q
      by_cases h3 : p + 1 < 4503599627370496
      · rw [Nat.add_assoc, V_hi hp, V_hi h3]
        exact Nat.mul_lt_mul_of_pos_right (by omega) hpos
      · rw [V_hi hp, show (q + 1) * 4503599627370496 + p + 1 = (q + 1 + 1) * 4503599627370496 + 0 by omega, V_hi (by omega), Nat.pow_succ]
        have : (4503599627370496 + p) * 2 ^ q < (4503599627370496 + 4503599627370496) * 2 ^ q := Nat.mul_lt_mul_of_pos_right (by omega) hpos
        omega

theorem V_lt {r s : Nat} (h : r < s) : V r < V s := by
  induction s with
  | zero => omega
  | succ s ih =>
    by_cases e : r = s
    · subst e; exact V_succ r
    · exact Nat.lt_trans (ih (by omega)) (V_succ s)

theorem V_le {r s : Nat} (h : r ≤ s) : V r ≤ V s := by
  by_cases e : r = s
  · subst e; exact Nat.le_refl _
  · exact Nat.le_of_lt (V_lt (by omega))

theorem V_inj {r s : Nat} (h : V r = V s) : r = s := by
  rcases Nat.lt_trichotomy r s with h1 | h1 | h1
  · have := V_lt h1; omega
  · exact h1
  · have := V_lt h1; omega

/-- the value of a word that is no NaN -/
def ival (x : Nat) : Int := if sg x then -(V (rg x) : Int) else V (rg x)

theorem read_eq (x : Nat) : double.read x =
    if rg x < 4503599627370496 then Datum.number (sg x) (rg x) (-1074)
    else if rg x < 9218868437227405312 then Datum.number (sg x) (4503599627370496 + rg x % 4503599627370496) (-1074 + (rg x / 4503599627370496 - 1 : Nat))
    else if rg x = 9218868437227405312 then Datum.infinity (sg x)
    else Datum.nan (sg x) (rg x - 9218868437227405312) := rfl

/-- what a finite word reads as -/
theorem read_fin {x : Nat} (h : rg x < 9218868437227405312) :
    ∃ (m e : Nat), double.read x = .number (sg x) m (-1074 + (e : Int)) ∧ m * 2 ^ e = V (rg x) ∧ m < 9007199254740992 ∧ (m = 0 → rg x = 0) := by
  rw [read_eq]
  by_cases h1 : rg x < 4503599627370496
  · refine ⟨rg x, 0, ?_, ?_, by omega, fun h => h⟩
    · rw [if_pos h1]
      rfl
    · rw [V_lo h1, Nat.pow_zero, Nat.mul_one]
  · rw [if_neg h1, if_pos h]
    obtain ⟨q, p, hp, hr⟩ := rung_split (r := rg x) (by omega)
    refine ⟨4503599627370496 + p, q, ?_, ?_, by omega, by omega⟩
    · rw [hr, show ((q + 1) * 4503599627370496 + p) % 4503599627370496 = p by omega, show ((q + 1) * 4503599627370496 + p) / 4503599627370496 = q + 1 by omega, Nat.add_sub_cancel]
    · rw [hr, V_hi hp]

theorem read_inf {x : Nat} (h : rg x = 9218868437227405312) : double.read x = .infinity (sg x) := by
  rw [read_eq, if_neg (by omega), if_neg (by omega), if_pos h]

theorem read_nan {x : Nat} (h : 9218868437227405312 < rg x) : ∃ f, double.read x = .nan (sg x) f := by
  rw [read_eq, if_neg (by omega), if_neg (by omega), if_neg (by omega)]
  exact ⟨_, rfl⟩

/-- the order of two words, by their values -/
theorem signed_scale (s : Bool) (m u v : Nat) : signed s m (u + v) = signed s m u * 2 ^ v := by
  unfold signed
  rw [Nat.shiftLeft_eq, Nat.shiftLeft_eq, Nat.pow_add, ← Nat.mul_assoc]
  cases s
  · simp [Int.natCast_mul, Int.natCast_pow]
  · simp [Int.natCast_mul, Int.natCast_pow, Int.neg_mul]

theorem compare_scale (a b : Int) (v : Nat) : compare (a * 2 ^ v) (b * 2 ^ v) = compare a b := by
  have hp : (0 : Int) < 2 ^ v := Int.pow_pos (by omega)
  rcases Int.lt_trichotomy a b with h | h | h
  · have h2 := Int.mul_lt_mul_of_pos_right h hp
    rw [show compare a b = .lt from Int.compare_eq_lt.2 h, show compare (a * 2 ^ v) (b * 2 ^ v) = .lt from Int.compare_eq_lt.2 h2]
  · subst h
    rw [show compare a a = .eq from Int.compare_eq_eq.2 rfl, show compare (a * 2 ^ v) (a * 2 ^ v) = .eq from Int.compare_eq_eq.2 rfl]
  · have h2 := Int.mul_lt_mul_of_pos_right h hp
    rw [show compare a b = .gt from Int.compare_eq_gt.2 h, show compare (a * 2 ^ v) (b * 2 ^ v) = .gt from Int.compare_eq_gt.2 h2]

theorem ival_signed {x m e : Nat} (h : m * 2 ^ e = V (rg x)) : ival x = signed (sg x) m e := by
  unfold ival signed
  rw [Nat.shiftLeft_eq, h]

theorem order_eq {x y : Nat} (hx : rg x ≤ 9218868437227405312) (hy : rg y ≤ 9218868437227405312) : double.order x y = some (compare (ival x) (ival y)) := by
  unfold Format.order
  by_cases fx : rg x < 9218868437227405312
  · obtain ⟨m, e, hr, hv, _, _⟩ := read_fin fx
    rw [hr]
    by_cases fy : rg y < 9218868437227405312
    · obtain ⟨n, f, hs, hu, _, _⟩ := read_fin fy
      rw [hs, ival_signed hv, ival_signed hu]
      simp only [Datum.order]
      congr 1
      by_cases c : e ≤ f
      · have e1 : (-1074 + (e : Int) - min (-1074 + (e : Int)) (-1074 + (f : Int))).toNat = 0 := by omega
        have e2 : (-1074 + (f : Int) - min (-1074 + (e : Int)) (-1074 + (f : Int))).toNat = f - e := by omega
        rw [e1, e2, show signed (sg x) m e = signed (sg x) m 0 * 2 ^ e by rw [← signed_scale, Nat.zero_add], show signed (sg y) n f = signed (sg y) n (f - e) * 2 ^ e by rw [← signed_scale, Nat.sub_add_cancel c], compare_scale]
      · have e1 : (-1074 + (e : Int) - min (-1074 + (e : Int)) (-1074 + (f : Int))).toNat = e - f := by omega
        have e2 : (-1074 + (f : Int) - min (-1074 + (e : Int)) (-1074 + (f : Int))).toNat = 0 := by omega
        rw [e1, e2, show signed (sg x) m e = signed (sg x) m (e - f) * 2 ^ f by rw [← signed_scale, Nat.sub_add_cancel (by omega)], show signed (sg y) n f = signed (sg y) n 0 * 2 ^ f by rw [← signed_scale, Nat.zero_add], compare_scale]
    · have iy : rg y = 9218868437227405312 := by omega
      rw [read_inf iy]
      simp only [Datum.order]
      have hlt := V_lt fx
      unfold ival
      rw [iy]
      cases sg y <;> cases sg x <;> simp <;> first | (symm; rw [Int.compare_eq_lt]; omega) | (symm; rw [Int.compare_eq_gt]; omega)
  · have ix : rg x = 9218868437227405312 := by omega
    rw [read_inf ix]
    by_cases fy : rg y < 9218868437227405312
    · obtain ⟨n, f, hs, hu, _, _⟩ := read_fin fy
      rw [hs]
      simp only [Datum.order]
      have hlt := V_lt fy
      unfold ival
      rw [ix]
      cases sg y <;> cases sg x <;> simp <;> first | (symm; rw [Int.compare_eq_lt]; omega) | (symm; rw [Int.compare_eq_gt]; omega)
    · have iy : rg y = 9218868437227405312 := by omega
      rw [read_inf iy]
      simp only [Datum.order]
      have hlt := V_lt (r := 0) (s := 9218868437227405312) (by omega)
      rw [V_zero] at hlt
      unfold ival
      rw [ix, iy]
      generalize V 9218868437227405312 = b at *
      cases sg y <;> cases sg x <;> simp <;> first | rfl | (symm; show _ = Ordering.lt; rw [Int.compare_eq_lt]; omega) | (symm; show _ = Ordering.gt; rw [Int.compare_eq_gt]; omega)

theorem order_nan {x y : Nat} (h : 9218868437227405312 < rg x ∨ 9218868437227405312 < rg y) : double.order x y = none := by
  unfold Format.order
  rcases h with h | h
  · obtain ⟨f, hf⟩ := read_nan h
    rw [hf]
    rfl
  · obtain ⟨f, hf⟩ := read_nan h
    rw [hf]
    cases double.read x <;> rfl

/-! ### rounding -/

theorem cut_split (neg : Bool) (n d : Nat) :
    (∃ more : Nat, more ≤ 1 ∧ Toward.even.cut neg n d = n / 2 ^ d + more ∧ (n % 2 ^ d = 0 → more = 0)) ∨ (Toward.even.cut neg n d = 0 ∧ n < 2 ^ d) := by
  unfold Toward.cut
  simp only [Nat.one_shiftLeft]
  by_cases h : d ≤ n.log2 + 2
  · rw [Nat.min_eq_left h]
    left
    refine ⟨_, ?_, rfl, ?_⟩
    · cases (decide (2 ^ d < 2 * (n % 2 ^ d)) || (2 ^ d == 2 * (n % 2 ^ d)) && (n / 2 ^ d % 2 == 1)) <;> simp
    · intro h0
      rw [h0]
      simp
  · right
    rw [Nat.min_eq_right (by omega)]
    have h1 : n < 2 ^ (n.log2 + 1) := Nat.lt_log2_self
    have h2 : 2 ^ (n.log2 + 2) = 2 * 2 ^ (n.log2 + 1) := by rw [show n.log2 + 2 = n.log2 + 1 + 1 by omega, Nat.pow_succ, Nat.mul_comm]
    have h3 : 2 ^ (n.log2 + 2) ≤ 2 ^ d := Nat.pow_le_pow_right (by omega) (by omega)
    refine ⟨?_, by omega⟩
    rw [Nat.div_eq_of_lt (by omega), Nat.mod_eq_of_lt (by omega)]
    have c1 : ¬ 2 ^ (n.log2 + 2) < 2 * n := by omega
    simp [c1]

theorem cut_ge {neg : Bool} {n d c : Nat} (h : c * 2 ^ d ≤ n) : c ≤ Toward.even.cut neg n d := by
  have hp : 0 < 2 ^ d := Nat.two_pow_pos d
  rcases cut_split neg n d with ⟨more, _, e, _⟩ | ⟨e, hlt⟩
  · rw [e]
    have := (Nat.le_div_iff_mul_le hp).2 h
    omega
  · rw [e]
    cases c with
    | zero => omega
    | succ c =>
      rw [Nat.succ_mul] at h
      omega

theorem cut_le {neg : Bool} {n d c : Nat} (h : n ≤ c * 2 ^ d) : Toward.even.cut neg n d ≤ c := by
  have hp : 0 < 2 ^ d := Nat.two_pow_pos d
  rcases cut_split neg n d with ⟨more, hm, e, hz⟩ | ⟨e, _⟩
  · rw [e]
    by_cases he : n = c * 2 ^ d
    · subst he
      rw [hz (Nat.mul_mod_left _ _), Nat.mul_div_cancel _ hp]
      omega
    · have : n / 2 ^ d < c := (Nat.div_lt_iff_lt_mul hp).2 (by omega)
      omega
  · rw [e]; omega

/-- the rung before it is held at infinity's -/
def rung0 (mag : Nat) (place : Int) : Nat :=
  let last := max (place + mag.log2 - 52) (-1074)
  (last - -1074).toNat * 4503599627370496 + Toward.even.cut false (mag <<< (place - last).toNat) (last - place).toNat

theorem cut_sign (a b : Bool) (n d : Nat) : Toward.even.cut a n d = Toward.even.cut b n d := rfl

theorem nearest_eq (neg : Bool) {mag : Nat} (place : Int) (h : mag ≠ 0) : double.nearest neg mag place = double.word neg (min (rung0 mag place) 9218868437227405312) := by
  unfold Format.nearest
  rw [if_neg h]
  rfl

theorem nearest_zero (neg : Bool) (place : Int) : double.nearest neg 0 place = double.word neg 0 := by
  unfold Format.nearest
  rw [if_pos rfl]

/-- the parts of a rounding: 'place = -1074 + b - a' -/
theorem parts {mag : Nat} {a b : Nat} (h : mag ≠ 0) :
    ∃ e kept, rung0 mag (-1074 + (b : Int) - (a : Int)) = e * 4503599627370496 + kept ∧
      (∀ c, c * 2 ^ (a + e) ≤ mag * 2 ^ b → c ≤ kept) ∧ (∀ c, mag * 2 ^ b ≤ c * 2 ^ (a + e) → kept ≤ c) ∧
      mag * 2 ^ b < 9007199254740992 * 2 ^ (a + e) ∧ (0 < e → 4503599627370496 * 2 ^ (a + e) ≤ mag * 2 ^ b) := by
  have l1 : 2 ^ mag.log2 ≤ mag := Nat.log2_self_le h
  have l2 : mag < 2 ^ (mag.log2 + 1) := Nat.lt_log2_self
  obtain ⟨g, hg⟩ : ∃ g, g = mag.log2 := ⟨_, rfl⟩
  rw [← hg] at l1 l2
  unfold rung0
  simp only [← hg]
  obtain ⟨e, he⟩ : ∃ e : Nat, e = (max (-1074 + (b : Int) - (a : Int) + (g : Int) - 52) (-1074) - -1074).toNat := ⟨_, rfl⟩
  have hlast : max (-1074 + (b : Int) - (a : Int) + (g : Int) - 52) (-1074) = -1074 + (e : Int) := by omega
  rw [hlast]
  have e0 : (-1074 + (e : Int) - -1074).toNat = e := by omega
  have e1 : (-1074 + (b : Int) - (a : Int) - (-1074 + (e : Int))).toNat = b - (a + e) := by omega
  have e2 : (-1074 + (e : Int) - (-1074 + (b : Int) - (a : Int))).toNat = a + e - b := by omega
  rw [e0, e1, e2]
  have m1 : mag * 2 ^ b < 2 ^ (g + 1 + b) := by
    rw [Nat.pow_add]
    exact Nat.mul_lt_mul_of_pos_right l2 (Nat.two_pow_pos b)
  have m2 : 2 ^ (g + b) ≤ mag * 2 ^ b := by
    rw [Nat.pow_add]
    exact Nat.mul_le_mul_right _ l1
  refine ⟨e, _, rfl, ?_, ?_, ?_, ?_⟩
  · intro c hc
    refine cut_ge ?_
    rw [Nat.shiftLeft_eq]
    by_cases hb : a + e ≤ b
    · rw [show a + e - b = 0 by omega, Nat.pow_zero, Nat.mul_one]
      have : c * 2 ^ (a + e) ≤ (mag * 2 ^ (b - (a + e))) * 2 ^ (a + e) := by
        rw [Nat.mul_assoc, ← Nat.pow_add, Nat.sub_add_cancel hb]
        exact hc
      exact Nat.le_of_mul_le_mul_right this (Nat.two_pow_pos _)
    · rw [show b - (a + e) = 0 by omega, Nat.pow_zero, Nat.mul_one]
      have : c * 2 ^ (a + e - b) * 2 ^ b ≤ mag * 2 ^ b := by
        rw [Nat.mul_assoc, ← Nat.pow_add, Nat.sub_add_cancel (by omega)]
        exact hc
      exact Nat.le_of_mul_le_mul_right this (Nat.two_pow_pos _)
  · intro c hc
    refine cut_le ?_
    rw [Nat.shiftLeft_eq]
    by_cases hb : a + e ≤ b
    · rw [show a + e - b = 0 by omega, Nat.pow_zero, Nat.mul_one]
      have : (mag * 2 ^ (b - (a + e))) * 2 ^ (a + e) ≤ c * 2 ^ (a + e) := by
        rw [Nat.mul_assoc, ← Nat.pow_add, Nat.sub_add_cancel hb]
        exact hc
      exact Nat.le_of_mul_le_mul_right this (Nat.two_pow_pos _)
    · rw [show b - (a + e) = 0 by omega, Nat.pow_zero, Nat.mul_one]
      have : mag * 2 ^ b ≤ c * 2 ^ (a + e - b) * 2 ^ b := by
        rw [Nat.mul_assoc, ← Nat.pow_add, Nat.sub_add_cancel (by omega)]
        exact hc
      exact Nat.le_of_mul_le_mul_right this (Nat.two_pow_pos _)
  · refine Nat.lt_of_lt_of_le m1 ?_
    rw [show (9007199254740992 : Nat) = 2 ^ 53 from rfl, ← Nat.pow_add]
    exact Nat.pow_le_pow_right (by omega) (by omega)
  · intro hpos
    refine Nat.le_trans ?_ m2
    rw [show (4503599627370496 : Nat) = 2 ^ 52 from rfl, ← Nat.pow_add]
    exact Nat.pow_le_pow_right (by omega) (by omega)

theorem pow_lt_of {c k a b : Nat} (h : c * 2 ^ a < k * 2 ^ b) (hk : k ≤ c) : a < b := by
  apply Nat.lt_of_not_le
  intro hle
  have h1 : 2 ^ b ≤ 2 ^ a := Nat.pow_le_pow_right (by omega) hle
  have h2 : k * 2 ^ b ≤ c * 2 ^ a := Nat.mul_le_mul hk h1
  omega

/-- nothing is rounded below a rung that it is not below -/
theorem rung_ge {mag a b r : Nat} (h : mag ≠ 0) (hv : V r * 2 ^ a ≤ mag * 2 ^ b) : r ≤ rung0 mag (-1074 + (b : Int) - (a : Int)) := by
  obtain ⟨e, kept, hr, hge, hle, hhi, hlo⟩ := parts (a := a) (b := b) h
  rw [hr]
  by_cases h1 : r < 4503599627370496
  · rw [V_lo h1] at hv
    by_cases he : e = 0
    · subst he
      have := hge r (by rw [Nat.add_zero]; exact hv)
      omega
    · have : 4503599627370496 ≤ e * 4503599627370496 := Nat.le_mul_of_pos_left _ (by omega)
      omega
  · obtain ⟨q, p, hp, rfl⟩ := rung_split (r := r) (by omega)
    rw [V_hi hp, Nat.mul_assoc, ← Nat.pow_add] at hv
    have hq : q ≤ e := by
      have h2 : 4503599627370496 * 2 ^ (q + a) < 9007199254740992 * 2 ^ (a + e) :=
        Nat.lt_of_le_of_lt (Nat.le_trans (Nat.mul_le_mul_right _ (by omega)) hv) hhi
      have h3 : 9007199254740992 * 2 ^ (a + e) = 4503599627370496 * 2 ^ (a + e + 1) := by rw [Nat.pow_succ]; omega
      rw [h3] at h2
      have := pow_lt_of h2 (Nat.le_refl _)
      omega
    by_cases he : e = q
    · subst he
      have := hge (4503599627370496 + p) (by rw [Nat.add_comm a e]; exact hv)
      omega
    · have h4 := hlo (by omega)
      have h5 := hge 4503599627370496 h4
      have h6 : (q + 1) * 4503599627370496 ≤ e * 4503599627370496 := Nat.mul_le_mul_right _ (by omega)
      have h7 : p ≤ kept := Nat.le_trans (Nat.le_of_lt hp) h5
      exact Nat.add_le_add h6 h7

/-- nothing is rounded above a rung that it is not above -/
theorem rung_le {mag a b r : Nat} (h : mag ≠ 0) (hv : mag * 2 ^ b ≤ V r * 2 ^ a) : rung0 mag (-1074 + (b : Int) - (a : Int)) ≤ r := by
  obtain ⟨e, kept, hr, hge, hle, hhi, hlo⟩ := parts (a := a) (b := b) h
  rw [hr]
  by_cases h1 : r < 4503599627370496
  · rw [V_lo h1] at hv
    have he : e = 0 := by
      apply Nat.eq_zero_of_not_pos
      intro hpos
      have h2 := Nat.le_trans (hlo hpos) hv
      have h3 : 2 ^ a ≤ 2 ^ (a + e) := Nat.pow_le_pow_right (by omega) (by omega)
      have h4 : r * 2 ^ a < 4503599627370496 * 2 ^ a := Nat.mul_lt_mul_of_pos_right h1 (Nat.two_pow_pos a)
      have h5 : 4503599627370496 * 2 ^ a ≤ 4503599627370496 * 2 ^ (a + e) := Nat.mul_le_mul_left _ h3
      omega
    subst he
    have := hle r (by rw [Nat.add_zero]; exact hv)
    omega
  · obtain ⟨q, p, hp, rfl⟩ := rung_split (r := r) (by omega)
    rw [V_hi hp, Nat.mul_assoc, ← Nat.pow_add] at hv
    have hq : e ≤ q := by
      by_cases he : e = 0
      · omega
      · have h2 := Nat.le_trans (hlo (by omega)) hv
        have h3 : (4503599627370496 + p) * 2 ^ (q + a) < 9007199254740992 * 2 ^ (q + a) := Nat.mul_lt_mul_of_pos_right (by omega) (Nat.two_pow_pos _)
        have h4 : 9007199254740992 * 2 ^ (q + a) = 4503599627370496 * 2 ^ (q + a + 1) := by rw [Nat.pow_succ]; omega
        have h5 : 4503599627370496 * 2 ^ (a + e) < 4503599627370496 * 2 ^ (q + a + 1) := by omega
        have := pow_lt_of h5 (Nat.le_refl _)
        omega
    by_cases he : e = q
    · subst he
      have := hle (4503599627370496 + p) (by rw [Nat.add_comm a e]; exact hv)
      omega
    · have h4 := hle 9007199254740992 (Nat.le_of_lt hhi)
      have h6 : (e + 1) * 4503599627370496 ≤ q * 4503599627370496 := Nat.mul_le_mul_right _ (by omega)
      omega

/-- what the format has is rounded to itself -/
theorem nearest_exact {neg : Bool} {mag a b r : Nat} (hr : r ≤ 9218868437227405312) (hv : mag * 2 ^ b = V r * 2 ^ a) : double.nearest neg mag (-1074 + (b : Int) - (a : Int)) = double.word neg r := by
  by_cases h : mag = 0
  · subst h
    rw [nearest_zero]
    have h0 : V r = 0 := by
      rw [Nat.zero_mul] at hv
      rcases Nat.mul_eq_zero.1 hv.symm with h | h
      · exact h
      · have := Nat.two_pow_pos a; omega
    rw [V_inj (h0.trans V_zero.symm)]
  · rw [nearest_eq _ _ h]
    have h1 := rung_ge h (Nat.le_of_eq hv.symm)
    have h2 := rung_le h (Nat.le_of_eq hv)
    rw [show rung0 mag (-1074 + (b : Int) - (a : Int)) = r by omega, Nat.min_eq_left hr]

end Go.Proofs.Qxb6627523a.Fl
