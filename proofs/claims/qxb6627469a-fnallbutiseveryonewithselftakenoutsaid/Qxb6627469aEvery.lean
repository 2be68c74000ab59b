/-
  Seat b6627469a: FnAllButIsEveryoneWithSelfTakenOut (function 4): the walk, a theorem a case of self.
-/
import Derived.Test.Qxb6627469aAll
import Derived.Deep.QuietTactic
import Derived.BigQuiet
namespace Go.Proofs.Qxb6627469a
open Go.RowKit

theorem cellsF {w w' : World} {B g c : Nat} {f : Nat → Int} (hb : Below B w w') (hg : g < B) (h : ∀ i, i < c → w.cell? ⟨g, i, none⟩ = some (.int .i64 (f i))) : ∀ i, i < c → w'.cell? ⟨g, i, none⟩ = some (.int .i64 (f i)) :=
  fun i hi => (hb.cell (p := ⟨g, i, none⟩) hg).trans (h i hi)

/-- AllBut, its length and its elements said otherwise -/
theorem allBut_f (n : Nat) (self : Int) (c : Nat) (f : Nat → Int) (w : World) (hn : n ≤ 65537) (hc : cnt self n = c) (hf : ∀ i, i < c → el self i = f i) :
    Calls Try.prog 5 #[.int .i64 (n : Int), .int .i64 self] w fun e w' => ∃ g, e = .returned (.slice (some ⟨g, 0, none⟩) c n) ∧ w.heap.size ≤ g ∧ g < w'.heap.size ∧
      (∀ i, i < c → w'.cell? ⟨g, i, none⟩ = some (.int .i64 (f i))) ∧ Below w.heap.size w w' := by
  subst hc
  refine (allBut_any n self w hn).mono ?_
  rintro e w' ⟨g, rfl, h1, h2, h3, h4⟩
  exact ⟨g, rfl, h1, h2, fun i hi => by rw [← hf i hi]; exact h3 i hi, h4⟩

def idInt (i : Nat) : Int := i
/-- the list with place s cut out -/
def gap (s i : Nat) : Int := if i < s then (i : Int) else (i : Int) + 1

theorem gap_lo {s i : Nat} (h : i < s) : gap s i = (i : Int) := by unfold gap; rw [if_pos h]
theorem gap_hi {s i : Nat} (h : s ≤ i) : gap s i = (i : Int) + 1 := by unfold gap; rw [if_neg (by omega)]


set_option maxRecDepth 100000 in
set_option maxHeartbeats 1000000 in
theorem every_neg (n : Nat) (self : Int) (w : World) (hn : n ≤ 65536) (h0 : self < 0) :
    Calls Try.prog 4 #[.int .i64 (n : Int), .int .i64 self] w fun e w' => e = .returned (.bool true) ∧ Below w.heap.size w w' := by
  go_enter Try.func4, Try.ntmps4
  go_wp2_with fail
  refine (allBut_f n (n : Int) n idInt _ (by omega) (by unfold cnt; rw [if_neg (by omega)]) (fun i hi => by unfold el idInt; rw [if_neg (by omega)])).mono ?_
  rintro e w1 ⟨ga, rfl, g1, g2, hA, hb1⟩
  have z1 := hb1.size
  go_wp2_with fail
  refine (allBut_f n self n idInt _ (by omega) (by unfold cnt; rw [if_neg (by omega)]) (fun i hi => by unfold el idInt; rw [if_neg (by omega)])).mono ?_
  rintro e w2 ⟨gb, rfl, g3, g4, hB, hb2⟩
  have z2 := hb2.size
  have hA2 := cellsF hb2 g2 hA
  have B2 : Below w.heap.size w w2 := hb1.trans (hb2.mono z1)
  clear hA hb1 hb2
  go_wp2
  go_loopw [7] (fun i wr => ∃ k : Nat, k ≤ n ∧ i = .int .i64 k ∧ Below w2.heap.size w2 wr) (fun i _ => n - (intOf i).toNat)
  case atStart => exact ⟨0, Nat.zero_le _, rfl, Below.refl _ _⟩
  case round =>
    obtain ⟨k, hk, rfl, hbel⟩ := hrel
    by_cases hlt : k < n
    · have c0 := cellsF hbel (by omega) hA2 k hlt
      have e1 : (k : Int) < (n : Int) := by omega
      rw [show idInt k = (k : Int) from rfl] at c0
      go_wp2
      go_roundw
      case rel => exact ⟨k + 1, by omega, by go_num, hbel⟩
      case measure => simp [intOf]; omega
    · go_wp2
      go_loopw [10] (fun i wi => ∃ k : Nat, k ≤ n ∧ i = .int .i64 k ∧ Below w2.heap.size w2 wi) (fun i _ => n - (intOf i).toNat)
      case atStart => exact ⟨0, Nat.zero_le _, rfl, hbel⟩
      case round =>
        clear hbel
        obtain ⟨j, hj, rfl, hbel⟩ := hrel
        by_cases hlt2 : j < n
        · have c0 := cellsF hbel (by omega) hA2 j hlt2
          have c1 := cellsF hbel (by omega) hB j hlt2
          have e1 : (j : Int) < (n : Int) := by omega
          go_wp2
          go_quiet (fail)
          go_wp2
          go_roundw
          case rel => exact ⟨j + 1, by omega, by go_num, below_drewN hbel _⟩
          case measure => simp [intOf]; omega
        · go_wp2
          go_ret
          exact ⟨rfl, B2.trans (hbel.mono (by omega))⟩

set_option maxRecDepth 100000 in
set_option maxHeartbeats 1000000 in
theorem every_big (n : Nat) (self : Int) (w : World) (hn : n ≤ 65536) (h0 : (n : Int) ≤ self) :
    Calls Try.prog 4 #[.int .i64 (n : Int), .int .i64 self] w fun e w' => e = .returned (.bool true) ∧ Below w.heap.size w w' := by
  go_enter Try.func4, Try.ntmps4
  go_wp2_with fail
  refine (allBut_f n (n : Int) n idInt _ (by omega) (by unfold cnt; rw [if_neg (by omega)]) (fun i hi => by unfold el idInt; rw [if_neg (by omega)])).mono ?_
  rintro e w1 ⟨ga, rfl, g1, g2, hA, hb1⟩
  have z1 := hb1.size
  go_wp2_with fail
  refine (allBut_f n self n idInt _ (by omega) (by unfold cnt; rw [if_neg (by omega)]) (fun i hi => by unfold el idInt; rw [if_neg (by omega)])).mono ?_
  rintro e w2 ⟨gb, rfl, g3, g4, hB, hb2⟩
  have z2 := hb2.size
  have hA2 := cellsF hb2 g2 hA
  have B2 : Below w.heap.size w w2 := hb1.trans (hb2.mono z1)
  clear hA hb1 hb2
  go_wp2
  go_loopw [7] (fun i wr => ∃ k : Nat, k ≤ n ∧ i = .int .i64 k ∧ Below w2.heap.size w2 wr) (fun i _ => n - (intOf i).toNat)
  case atStart => exact ⟨0, Nat.zero_le _, rfl, Below.refl _ _⟩
  case round =>
    obtain ⟨k, hk, rfl, hbel⟩ := hrel
    by_cases hlt : k < n
    · have c0 := cellsF hbel (by omega) hA2 k hlt
      have e1 : (k : Int) < (n : Int) := by omega
      rw [show idInt k = (k : Int) from rfl] at c0
      go_wp2
      go_roundw
      case rel => exact ⟨k + 1, by omega, by go_num, hbel⟩
      case measure => simp [intOf]; omega
    · go_wp2
      go_loopw [10] (fun i wi => ∃ k : Nat, k ≤ n ∧ i = .int .i64 k ∧ Below w2.heap.size w2 wi) (fun i _ => n - (intOf i).toNat)
      case atStart => exact ⟨0, Nat.zero_le _, rfl, hbel⟩
      case round =>
        clear hbel
        obtain ⟨j, hj, rfl, hbel⟩ := hrel
        by_cases hlt2 : j < n
        · have c0 := cellsF hbel (by omega) hA2 j hlt2
          have c1 := cellsF hbel (by omega) hB j hlt2
          have e1 : (j : Int) < (n : Int) := by omega
          go_wp2
          go_quiet (fail)
          go_wp2
          go_roundw
          case rel => exact ⟨j + 1, by omega, by go_num, below_drewN hbel _⟩
          case measure => simp [intOf]; omega
        · go_wp2
          go_ret
          exact ⟨rfl, B2.trans (hbel.mono (by omega))⟩

set_option maxRecDepth 100000 in
set_option maxHeartbeats 1000000 in
theorem every_in (n s cp : Nat) (w : World) (hn : n ≤ 65536) (hs : s < n) (hcp : cp + 1 = n) :
    Calls Try.prog 4 #[.int .i64 (n : Int), .int .i64 (s : Int)] w fun e w' => e = .returned (.bool true) ∧ Below w.heap.size w w' := by
  have p1 : (cp : Int) ≤ (n : Int) - 1 := by omega
  have p2 : (n : Int) - 1 ≤ (cp : Int) := by omega
  have t1 : ((cp : Int) != (n : Int) - 1) = false := by simp; omega
  have HP : Hid (cp + 1 = n) := hcp
  clear hcp
  go_enter Try.func4, Try.ntmps4
  go_wp2_with fail
  refine (allBut_f n (n : Int) n idInt _ (by omega) (by unfold cnt; rw [if_neg (by omega)]) (fun i hi => by unfold el idInt; rw [if_neg (by omega)])).mono ?_
  rintro e w1 ⟨ga, rfl, g1, g2, hA, hb1⟩
  have z1 := hb1.size
  go_wp2_with fail
  refine (allBut_f n (s : Int) cp (gap s) _ (by omega) (by unfold cnt; rw [if_pos (by omega)]; have := HP.out; omega) (fun i hi => by unfold el gap; split <;> split <;> omega)).mono ?_
  rintro e w2 ⟨gb, rfl, g3, g4, hB, hb2⟩
  have z2 := hb2.size
  have hA2 := cellsF hb2 g2 hA
  have B2 : Below w.heap.size w w2 := hb1.trans (hb2.mono z1)
  clear hA hb1 hb2
  go_wp2
  go_loopw [7] (fun i wr => ∃ k : Nat, k ≤ n ∧ i = .int .i64 k ∧ Below w2.heap.size w2 wr) (fun i _ => n - (intOf i).toNat)
  case atStart => exact ⟨0, Nat.zero_le _, rfl, Below.refl _ _⟩
  case round =>
    obtain ⟨k, hk, rfl, hbel⟩ := hrel
    by_cases hlt : k < n
    · have c0 := cellsF hbel (by omega) hA2 k hlt
      have e1 : (k : Int) < (n : Int) := by omega
      rw [show idInt k = (k : Int) from rfl] at c0
      go_wp2
      go_roundw
      case rel => exact ⟨k + 1, by omega, by go_num, hbel⟩
      case measure => simp [intOf]; omega
    · go_wp2
      go_loopw [8] (fun i wi => ∃ k : Nat, k ≤ s ∧ i = .int .i64 k ∧ Below w2.heap.size w2 wi) (fun i _ => s - (intOf i).toNat)
      case atStart => exact ⟨0, Nat.zero_le _, rfl, hbel⟩
      case round =>
        clear hbel
        obtain ⟨j, hj, rfl, hbel⟩ := hrel
        by_cases hlt2 : j < s
        · have c0 := cellsF hbel (by omega) hA2 j (by omega)
          have c1 := cellsF hbel (by omega) hB j (by omega)
          rw [gap_lo hlt2] at c1
          rw [show idInt j = (j : Int) from rfl] at c0
          have e1 : (j : Int) < (n : Int) := by omega
          have e2 : (j : Int) < (cp : Int) := by omega
          go_wp2
          go_quiet (fail)
          go_wp2
          go_roundw
          case rel => exact ⟨j + 1, by omega, by go_num, below_drewN hbel _⟩
          case measure => simp [intOf]; omega
        · have c0 := cellsF hbel (by omega) hA2 s hs
          rw [show idInt s = (s : Int) from rfl] at c0
          go_wp2
          go_loopw [9] (fun i wi => ∃ k : Nat, s ≤ k ∧ k ≤ cp ∧ i = .int .i64 k ∧ Below w2.heap.size w2 wi) (fun i _ => cp - (intOf i).toNat)
          case atStart => exact ⟨s, Nat.le_refl _, by omega, rfl, hbel⟩
          case round =>
            clear hbel c0
            obtain ⟨i, hi0, hi, rfl, hbel⟩ := hrel
            by_cases hlt3 : i < cp
            · have c0 := cellsF hbel (by omega) hA2 (i + 1) (by omega)
              have c1 := cellsF hbel (by omega) hB i (by omega)
              rw [gap_hi hi0] at c1
              rw [show idInt (i + 1) = (i : Int) + 1 from by unfold idInt; omega] at c0
              have e1 : (i : Int) + 1 < (n : Int) := by omega
              have e2 : (i : Int) < (cp : Int) := by omega
              go_wp2
              go_quiet (fail)
              go_wp2
              go_roundw
              case rel => exact ⟨i + 1, by omega, by omega, by go_num, below_drewN hbel _⟩
              case measure => simp [intOf]; omega
            · go_wp2
              go_ret
              exact ⟨rfl, B2.trans (hbel.mono (by omega))⟩

set_option maxHeartbeats 400000 in
theorem every_out (n self : Int) (w : World) (h : n < 0 ∨ 65536 < n) :
    Calls Try.prog 4 #[.int .i64 n, .int .i64 self] w fun e w' => e = .returned (.bool true) ∧ Below w.heap.size w w' := by
  rcases h with h | h
  · go_enter Try.func4, Try.ntmps4
    go_wp2
    go_ret
    exact ⟨rfl, Below.refl _ _⟩
  · have h0 : ¬ n < 0 := by omega
    go_enter Try.func4, Try.ntmps4
    go_wp2
    go_ret
    exact ⟨rfl, Below.refl _ _⟩

theorem every_any (n self : Int) (w : World) :
    Calls Try.prog 4 #[.int .i64 n, .int .i64 self] w fun e w' => e = .returned (.bool true) ∧ Below w.heap.size w w' := by
  by_cases h : n < 0 ∨ 65536 < n
  · exact every_out n self w h
  · obtain ⟨k, rfl⟩ := Int.eq_ofNat_of_zero_le (a := n) (by omega)
    by_cases h0 : self < 0
    · exact every_neg k self w (by omega) h0
    · by_cases h1 : self < k
      · obtain ⟨s, rfl⟩ := Int.eq_ofNat_of_zero_le (a := self) (by omega)
        exact every_in k s (k - 1) w (by omega) (by omega) (by omega)
      · exact every_big k self w (by omega) (by omega)

end Go.Proofs.Qxb6627469a
