/-
  Seat b6627469a: FnAllButGrowsByOneMember (function 3): the walk, a theorem a case of self.
-/
import Derived.Test.Qxb6627469aAll
import Derived.Deep.QuietTactic
import Derived.BigQuiet
namespace Go.Proofs.Qxb6627469a
open Go.RowKit

theorem cells_of {w w' : World} {B g c : Nat} {f : Nat → Int} (hb : Below B w w') (hg : g < B) (h : ∀ i, i < c → w.cell? ⟨g, i, none⟩ = some (.int .i64 (f i))) : ∀ i, i < c → w'.cell? ⟨g, i, none⟩ = some (.int .i64 (f i)) :=
  fun i hi => (hb.cell (p := ⟨g, i, none⟩) hg).trans (h i hi)

/-- AllBut, its length under a name of one's own -/
theorem allBut_c (n : Nat) (self : Int) (c : Nat) (w : World) (hn : n ≤ 65537) (hc : cnt self n = c) :
    Calls Try.prog 5 #[.int .i64 (n : Int), .int .i64 self] w fun e w' => ∃ g, e = .returned (.slice (some ⟨g, 0, none⟩) c n) ∧ w.heap.size ≤ g ∧ g < w'.heap.size ∧
      (∀ i, i < c → w'.cell? ⟨g, i, none⟩ = some (.int .i64 (el self i))) ∧ Below w.heap.size w w' := by
  subst hc
  exact allBut_any n self w hn

theorem el_facts {self : Int} {n i : Nat} (h : i < cnt self n) : 0 ≤ el self i ∧ el self i < n ∧ el self i ≠ self := by
  unfold cnt at h
  unfold el
  split at h <;> split <;> omega

theorem el_mono {self : Int} {i : Nat} (h : 0 < i) : el self (i - 1) < el self i := by
  unfold el
  split <;> split <;> omega


set_option maxRecDepth 100000 in
set_option maxHeartbeats 1000000 in
theorem grow_eq (n : Nat) (ca cb : Nat) (w : World) (hn : n ≤ 65536) (hca : cnt (n : Int) n = ca) (hcb : cnt (n : Int) (n + 1) = cb) (ha1 : (ca : Int) = n) (hb1 : (cb : Int) = ca + 0) :
    Calls Try.prog 3 #[.int .i64 (n : Int), .int .i64 (n : Int)] w fun e w' => e = .returned (.bool true) ∧ Below w.heap.size w w' := by
  have HA : Hid (cnt (n : Int) n = ca) := hca
  have HB : Hid (cnt (n : Int) (n + 1) = cb) := hcb
  have a2 : (ca : Int) ≤ (n : Int) := by omega
  have a3 : (n : Int) ≤ (ca : Int) := by omega
  have b2 : (cb : Int) ≤ ca + 0 := by omega
  have b3 : (ca : Int) + 0 ≤ cb := by omega
  clear hca hcb ha1 hb1
  have t1 : ((ca : Int) != (n : Int)) = false := by simp; omega
  have t2 : ((cb : Int) != (ca : Int) + 0) = false := by simp; omega
  go_enter Try.func3, Try.ntmps3
  go_wp2_with fail
  refine (allBut_c n (n : Int) ca _ (by omega) HA.out).mono ?_
  rintro e w1 ⟨ga, rfl, g1, g2, hA, hb1⟩
  have z1 := hb1.size
  go_wp2_with fail
  rw [show ((n : Int) + 1) = ((n + 1 : Nat) : Int) from by omega]
  refine (allBut_c (n + 1) (n : Int) cb _ (by omega) HB.out).mono ?_
  rintro e w2 ⟨gb, rfl, g3, g4, hB, hb2⟩
  have z2 := hb2.size
  have hA2 := cells_of hb2 g2 hA
  have B2 : Below w.heap.size w w2 := hb1.trans (hb2.mono z1)
  clear hA hb1 hb2
  go_wp2
  go_loopw [8] (fun i wr => ∃ k : Nat, k ≤ ca ∧ i = .int .i64 k ∧ Below w2.heap.size w2 wr) (fun i _ => ca - (intOf i).toNat)
  case atStart => exact ⟨0, Nat.zero_le _, rfl, Below.refl _ _⟩
  case round =>
    obtain ⟨k, hk, rfl, hbel⟩ := hrel
    by_cases hlt : k < ca
    · obtain ⟨x1, x2, x3⟩ := el_facts (self := (n : Int)) (n := n) (i := k) (by rw [HA.out]; exact hlt)
      have c0 := cells_of hbel (by omega) hA2 k hlt
      obtain ⟨x, hx⟩ : ∃ x, x = el (n : Int) k := ⟨_, rfl⟩
      rw [← hx] at x1 x2 x3 c0
      have x4 : (x == (n : Int)) = false := by simpa using x3
      by_cases h0 : 0 < k
      · have c1 := cells_of hbel (by omega) hA2 (k - 1) (by omega)
        have hm := el_mono (self := (n : Int)) h0
        rw [← hx] at hm
        obtain ⟨y, hy⟩ : ∃ y, y = el (n : Int) (k - 1) := ⟨_, rfl⟩
        rw [← hy] at hm c1
        clear hx hy x3
        have hk0 : (0 : Int) < (k : Int) := by omega
        have e1 : (k : Int) - 1 = ((k - 1 : Nat) : Int) := by omega
        have e2 : ((k - 1 : Nat) : Int) < (ca : Int) := by omega
        have e3 : (k : Int) < (ca : Int) := by omega
        go_wp2
        go_quiet (fail)
        go_wp2
        go_roundw
        case rel => exact ⟨k + 1, by omega, by go_num, below_drewN hbel _⟩
        case measure => simp [intOf]; omega
      · obtain rfl : k = 0 := by omega
        clear hx x3
        go_wp2
        go_quiet (fail)
        go_wp2
        go_roundw
        case rel => exact ⟨0 + 1, by omega, by go_num, below_drewN hbel _⟩
        case measure => simp [intOf]; omega
    · go_wp2
      go_loopw [10] (fun i wi => ∃ k : Nat, k ≤ ca ∧ i = .int .i64 k ∧ Below w2.heap.size w2 wi) (fun i _ => ca - (intOf i).toNat)
      case atStart => exact ⟨0, Nat.zero_le _, rfl, hbel⟩
      case round =>
        clear hbel
        obtain ⟨j, hj, rfl, hbel⟩ := hrel
        by_cases hlt2 : j < ca
        · have c0 := cells_of hbel (by omega) hA2 j hlt2
          have c1 := cells_of hbel (by omega) hB j (by omega)
          have e1 : (j : Int) < (ca : Int) := by omega
          have e2 : (j : Int) < (cb : Int) := by omega
          go_wp2
          go_quiet (fail)
          go_wp2
          go_roundw
          case rel => exact ⟨j + 1, by omega, by go_num, below_drewN hbel _⟩
          case measure => simp [intOf]; omega
        · go_wp2
          go_ret
          exact ⟨rfl, B2.trans (hbel.mono (by omega))⟩

set_option maxRecDepth 100000 in
set_option maxHeartbeats 1000000 in
theorem grow_in (n : Nat) (self : Int) (ca cb : Nat) (w : World) (hn : n ≤ 65536) (h0 : 0 ≤ self) (h1 : self < n) (hca : cnt self n = ca) (hcb : cnt self (n + 1) = cb) (ha1 : (ca : Int) = n - 1) (hb1 : (cb : Int) = ca + 1) :
    Calls Try.prog 3 #[.int .i64 (n : Int), .int .i64 self] w fun e w' => e = .returned (.bool true) ∧ Below w.heap.size w w' := by
  have HA : Hid (cnt self n = ca) := hca
  have HB : Hid (cnt self (n + 1) = cb) := hcb
  have a2 : (ca : Int) ≤ (n : Int) - 1 := by omega
  have a3 : (n : Int) - 1 ≤ (ca : Int) := by omega
  have b2 : (cb : Int) ≤ ca + 1 := by omega
  have b3 : (ca : Int) + 1 ≤ cb := by omega
  clear hca hcb ha1 hb1
  have t1 : ((ca : Int) != (n : Int) - 1) = false := by simp; omega
  have t2 : ((cb : Int) != (ca : Int) + 1) = false := by simp; omega
  have s1 : (self == (n : Int)) = false := by simp; omega
  go_enter Try.func3, Try.ntmps3
  go_wp2_with fail
  refine (allBut_c n self ca _ (by omega) HA.out).mono ?_
  rintro e w1 ⟨ga, rfl, g1, g2, hA, hb1⟩
  have z1 := hb1.size
  go_wp2_with fail
  rw [show ((n : Int) + 1) = ((n + 1 : Nat) : Int) from by omega]
  refine (allBut_c (n + 1) self cb _ (by omega) HB.out).mono ?_
  rintro e w2 ⟨gb, rfl, g3, g4, hB, hb2⟩
  have z2 := hb2.size
  have hA2 := cells_of hb2 g2 hA
  have B2 : Below w.heap.size w w2 := hb1.trans (hb2.mono z1)
  clear hA hb1 hb2
  go_wp2
  go_loopw [8] (fun i wr => ∃ k : Nat, k ≤ ca ∧ i = .int .i64 k ∧ Below w2.heap.size w2 wr) (fun i _ => ca - (intOf i).toNat)
  case atStart => exact ⟨0, Nat.zero_le _, rfl, Below.refl _ _⟩
  case round =>
    obtain ⟨k, hk, rfl, hbel⟩ := hrel
    by_cases hlt : k < ca
    · obtain ⟨x1, x2, x3⟩ := el_facts (self := self) (n := n) (i := k) (by rw [HA.out]; exact hlt)
      have c0 := cells_of hbel (by omega) hA2 k hlt
      obtain ⟨x, hx⟩ : ∃ x, x = el self k := ⟨_, rfl⟩
      rw [← hx] at x1 x2 x3 c0
      have x4 : (x == self) = false := by simpa using x3
      by_cases h0 : 0 < k
      · have c1 := cells_of hbel (by omega) hA2 (k - 1) (by omega)
        have hm := el_mono (self := self) h0
        rw [← hx] at hm
        obtain ⟨y, hy⟩ : ∃ y, y = el self (k - 1) := ⟨_, rfl⟩
        rw [← hy] at hm c1
        clear hx hy x3
        have hk0 : (0 : Int) < (k : Int) := by omega
        have e1 : (k : Int) - 1 = ((k - 1 : Nat) : Int) := by omega
        have e2 : ((k - 1 : Nat) : Int) < (ca : Int) := by omega
        have e3 : (k : Int) < (ca : Int) := by omega
        go_wp2
        go_quiet (fail)
        go_wp2
        go_roundw
        case rel => exact ⟨k + 1, by omega, by go_num, below_drewN hbel _⟩
        case measure => simp [intOf]; omega
      · obtain rfl : k = 0 := by omega
        clear hx x3
        go_wp2
        go_quiet (fail)
        go_wp2
        go_roundw
        case rel => exact ⟨0 + 1, by omega, by go_num, below_drewN hbel _⟩
        case measure => simp [intOf]; omega
    · go_wp2
      go_loopw [10] (fun i wi => ∃ k : Nat, k ≤ ca ∧ i = .int .i64 k ∧ Below w2.heap.size w2 wi) (fun i _ => ca - (intOf i).toNat)
      case atStart => exact ⟨0, Nat.zero_le _, rfl, hbel⟩
      case round =>
        clear hbel
        obtain ⟨j, hj, rfl, hbel⟩ := hrel
        by_cases hlt2 : j < ca
        · have c0 := cells_of hbel (by omega) hA2 j hlt2
          have c1 := cells_of hbel (by omega) hB j (by omega)
          have e1 : (j : Int) < (ca : Int) := by omega
          have e2 : (j : Int) < (cb : Int) := by omega
          go_wp2
          go_quiet (fail)
          go_wp2
          go_roundw
          case rel => exact ⟨j + 1, by omega, by go_num, below_drewN hbel _⟩
          case measure => simp [intOf]; omega
        · have c1 := cells_of hbel (by omega) hB ca (by omega)
          have e1 : el self ca = (n : Int) := by rw [← HA.out]; exact el_cnt (by omega)
          rw [e1] at c1
          have e2 : (ca : Int) < (cb : Int) := by omega
          clear e1
          go_wp2
          go_ret
          exact ⟨rfl, B2.trans (hbel.mono (by omega))⟩

set_option maxRecDepth 100000 in
set_option maxHeartbeats 1000000 in
theorem grow_neg (n : Nat) (self : Int) (ca cb : Nat) (w : World) (hn : n ≤ 65536) (h0 : self < 0) (hca : cnt self n = ca) (hcb : cnt self (n + 1) = cb) (ha1 : (ca : Int) = n) (hb1 : (cb : Int) = ca + 1) :
    Calls Try.prog 3 #[.int .i64 (n : Int), .int .i64 self] w fun e w' => e = .returned (.bool true) ∧ Below w.heap.size w w' := by
  have HA : Hid (cnt self n = ca) := hca
  have HB : Hid (cnt self (n + 1) = cb) := hcb
  have a2 : (ca : Int) ≤ (n : Int) := by omega
  have a3 : (n : Int) ≤ (ca : Int) := by omega
  have b2 : (cb : Int) ≤ ca + 1 := by omega
  have b3 : (ca : Int) + 1 ≤ cb := by omega
  clear hca hcb ha1 hb1
  have t1 : ((ca : Int) != (n : Int)) = false := by simp; omega
  have t2 : ((cb : Int) != (ca : Int) + 1) = false := by simp; omega
  have s1 : (self == (n : Int)) = false := by simp; omega
  go_enter Try.func3, Try.ntmps3
  go_wp2_with fail
  refine (allBut_c n self ca _ (by omega) HA.out).mono ?_
  rintro e w1 ⟨ga, rfl, g1, g2, hA, hb1⟩
  have z1 := hb1.size
  go_wp2_with fail
  rw [show ((n : Int) + 1) = ((n + 1 : Nat) : Int) from by omega]
  refine (allBut_c (n + 1) self cb _ (by omega) HB.out).mono ?_
  rintro e w2 ⟨gb, rfl, g3, g4, hB, hb2⟩
  have z2 := hb2.size
  have hA2 := cells_of hb2 g2 hA
  have B2 : Below w.heap.size w w2 := hb1.trans (hb2.mono z1)
  clear hA hb1 hb2
  go_wp2
  go_loopw [8] (fun i wr => ∃ k : Nat, k ≤ ca ∧ i = .int .i64 k ∧ Below w2.heap.size w2 wr) (fun i _ => ca - (intOf i).toNat)
  case atStart => exact ⟨0, Nat.zero_le _, rfl, Below.refl _ _⟩
  case round =>
    obtain ⟨k, hk, rfl, hbel⟩ := hrel
    by_cases hlt : k < ca
    · obtain ⟨x1, x2, x3⟩ := el_facts (self := self) (n := n) (i := k) (by rw [HA.out]; exact hlt)
      have c0 := cells_of hbel (by omega) hA2 k hlt
      obtain ⟨x, hx⟩ : ∃ x, x = el self k := ⟨_, rfl⟩
      rw [← hx] at x1 x2 x3 c0
      have x4 : (x == self) = false := by simpa using x3
      by_cases h0 : 0 < k
      · have c1 := cells_of hbel (by omega) hA2 (k - 1) (by omega)
        have hm := el_mono (self := self) h0
        rw [← hx] at hm
        obtain ⟨y, hy⟩ : ∃ y, y = el self (k - 1) := ⟨_, rfl⟩
        rw [← hy] at hm c1
        clear hx hy x3
        have hk0 : (0 : Int) < (k : Int) := by omega
        have e1 : (k : Int) - 1 = ((k - 1 : Nat) : Int) := by omega
        have e2 : ((k - 1 : Nat) : Int) < (ca : Int) := by omega
        have e3 : (k : Int) < (ca : Int) := by omega
        go_wp2
        go_quiet (fail)
        go_wp2
        go_roundw
        case rel => exact ⟨k + 1, by omega, by go_num, below_drewN hbel _⟩
        case measure => simp [intOf]; omega
      · obtain rfl : k = 0 := by omega
        clear hx x3
        go_wp2
        go_quiet (fail)
        go_wp2
        go_roundw
        case rel => exact ⟨0 + 1, by omega, by go_num, below_drewN hbel _⟩
        case measure => simp [intOf]; omega
    · go_wp2
      go_loopw [10] (fun i wi => ∃ k : Nat, k ≤ ca ∧ i = .int .i64 k ∧ Below w2.heap.size w2 wi) (fun i _ => ca - (intOf i).toNat)
      case atStart => exact ⟨0, Nat.zero_le _, rfl, hbel⟩
      case round =>
        clear hbel
        obtain ⟨j, hj, rfl, hbel⟩ := hrel
        by_cases hlt2 : j < ca
        · have c0 := cells_of hbel (by omega) hA2 j hlt2
          have c1 := cells_of hbel (by omega) hB j (by omega)
          have e1 : (j : Int) < (ca : Int) := by omega
          have e2 : (j : Int) < (cb : Int) := by omega
          go_wp2
          go_quiet (fail)
          go_wp2
          go_roundw
          case rel => exact ⟨j + 1, by omega, by go_num, below_drewN hbel _⟩
          case measure => simp [intOf]; omega
        · have c1 := cells_of hbel (by omega) hB ca (by omega)
          have e1 : el self ca = (n : Int) := by rw [← HA.out]; exact el_cnt (by omega)
          rw [e1] at c1
          have e2 : (ca : Int) < (cb : Int) := by omega
          clear e1
          go_wp2
          go_ret
          exact ⟨rfl, B2.trans (hbel.mono (by omega))⟩

set_option maxRecDepth 100000 in
set_option maxHeartbeats 1000000 in
theorem grow_big (n : Nat) (self : Int) (ca cb : Nat) (w : World) (hn : n ≤ 65536) (h0 : (n : Int) < self) (hca : cnt self n = ca) (hcb : cnt self (n + 1) = cb) (ha1 : (ca : Int) = n) (hb1 : (cb : Int) = ca + 1) :
    Calls Try.prog 3 #[.int .i64 (n : Int), .int .i64 self] w fun e w' => e = .returned (.bool true) ∧ Below w.heap.size w w' := by
  have HA : Hid (cnt self n = ca) := hca
  have HB : Hid (cnt self (n + 1) = cb) := hcb
  have a2 : (ca : Int) ≤ (n : Int) := by omega
  have a3 : (n : Int) ≤ (ca : Int) := by omega
  have b2 : (cb : Int) ≤ ca + 1 := by omega
  have b3 : (ca : Int) + 1 ≤ cb := by omega
  clear hca hcb ha1 hb1
  have t1 : ((ca : Int) != (n : Int)) = false := by simp; omega
  have t2 : ((cb : Int) != (ca : Int) + 1) = false := by simp; omega
  have s1 : (self == (n : Int)) = false := by simp; omega
  go_enter Try.func3, Try.ntmps3
  go_wp2_with fail
  refine (allBut_c n self ca _ (by omega) HA.out).mono ?_
  rintro e w1 ⟨ga, rfl, g1, g2, hA, hb1⟩
  have z1 := hb1.size
  go_wp2_with fail
  rw [show ((n : Int) + 1) = ((n + 1 : Nat) : Int) from by omega]
  refine (allBut_c (n + 1) self cb _ (by omega) HB.out).mono ?_
  rintro e w2 ⟨gb, rfl, g3, g4, hB, hb2⟩
  have z2 := hb2.size
  have hA2 := cells_of hb2 g2 hA
  have B2 : Below w.heap.size w w2 := hb1.trans (hb2.mono z1)
  clear hA hb1 hb2
  go_wp2
  go_loopw [8] (fun i wr => ∃ k : Nat, k ≤ ca ∧ i = .int .i64 k ∧ Below w2.heap.size w2 wr) (fun i _ => ca - (intOf i).toNat)
  case atStart => exact ⟨0, Nat.zero_le _, rfl, Below.refl _ _⟩
  case round =>
    obtain ⟨k, hk, rfl, hbel⟩ := hrel
    by_cases hlt : k < ca
    · obtain ⟨x1, x2, x3⟩ := el_facts (self := self) (n := n) (i := k) (by rw [HA.out]; exact hlt)
      have c0 := cells_of hbel (by omega) hA2 k hlt
      obtain ⟨x, hx⟩ : ∃ x, x = el self k := ⟨_, rfl⟩
      rw [← hx] at x1 x2 x3 c0
      have x4 : (x == self) = false := by simpa using x3
      by_cases h0 : 0 < k
      · have c1 := cells_of hbel (by omega) hA2 (k - 1) (by omega)
        have hm := el_mono (self := self) h0
        rw [← hx] at hm
        obtain ⟨y, hy⟩ : ∃ y, y = el self (k - 1) := ⟨_, rfl⟩
        rw [← hy] at hm c1
        clear hx hy x3
        have hk0 : (0 : Int) < (k : Int) := by omega
        have e1 : (k : Int) - 1 = ((k - 1 : Nat) : Int) := by omega
        have e2 : ((k - 1 : Nat) : Int) < (ca : Int) := by omega
        have e3 : (k : Int) < (ca : Int) := by omega
        go_wp2
        go_quiet (fail)
        go_wp2
        go_roundw
        case rel => exact ⟨k + 1, by omega, by go_num, below_drewN hbel _⟩
        case measure => simp [intOf]; omega
      · obtain rfl : k = 0 := by omega
        clear hx x3
        go_wp2
        go_quiet (fail)
        go_wp2
        go_roundw
        case rel => exact ⟨0 + 1, by omega, by go_num, below_drewN hbel _⟩
        case measure => simp [intOf]; omega
    · go_wp2
      go_loopw [10] (fun i wi => ∃ k : Nat, k ≤ ca ∧ i = .int .i64 k ∧ Below w2.heap.size w2 wi) (fun i _ => ca - (intOf i).toNat)
      case atStart => exact ⟨0, Nat.zero_le _, rfl, hbel⟩
      case round =>
        clear hbel
        obtain ⟨j, hj, rfl, hbel⟩ := hrel
        by_cases hlt2 : j < ca
        · have c0 := cells_of hbel (by omega) hA2 j hlt2
          have c1 := cells_of hbel (by omega) hB j (by omega)
          have e1 : (j : Int) < (ca : Int) := by omega
          have e2 : (j : Int) < (cb : Int) := by omega
          go_wp2
          go_quiet (fail)
          go_wp2
          go_roundw
          case rel => exact ⟨j + 1, by omega, by go_num, below_drewN hbel _⟩
          case measure => simp [intOf]; omega
        · have c1 := cells_of hbel (by omega) hB ca (by omega)
          have e1 : el self ca = (n : Int) := by rw [← HA.out]; exact el_cnt (by omega)
          rw [e1] at c1
          have e2 : (ca : Int) < (cb : Int) := by omega
          clear e1
          go_wp2
          go_ret
          exact ⟨rfl, B2.trans (hbel.mono (by omega))⟩

set_option maxHeartbeats 400000 in
theorem grow_out (n self : Int) (w : World) (h : n < 0 ∨ 65536 < n) :
    Calls Try.prog 3 #[.int .i64 n, .int .i64 self] w fun e w' => e = .returned (.bool true) ∧ Below w.heap.size w w' := by
  rcases h with h | h
  · go_enter Try.func3, Try.ntmps3
    go_wp2
    go_ret
    exact ⟨rfl, Below.refl _ _⟩
  · have h0 : ¬ n < 0 := by omega
    go_enter Try.func3, Try.ntmps3
    go_wp2
    go_ret
    exact ⟨rfl, Below.refl _ _⟩

theorem grow_any (n self : Int) (w : World) :
    Calls Try.prog 3 #[.int .i64 n, .int .i64 self] w fun e w' => e = .returned (.bool true) ∧ Below w.heap.size w w' := by
  by_cases h : n < 0 ∨ 65536 < n
  · exact grow_out n self w h
  · obtain ⟨k, rfl⟩ := Int.eq_ofNat_of_zero_le (a := n) (by omega)
    by_cases e : self = k
    · subst e
      exact grow_eq k (cnt k k) (cnt k (k + 1)) w (by omega) rfl rfl (by unfold cnt; rw [if_neg (by omega)]) (by unfold cnt; rw [if_pos (by omega), if_neg (by omega)]; omega)
    · by_cases h0 : self < 0
      · exact grow_neg k self (cnt self k) (cnt self (k + 1)) w (by omega) h0 rfl rfl (by unfold cnt; rw [if_neg (by omega)]) (by unfold cnt; rw [if_neg (by omega), if_neg (by omega)]; omega)
      · by_cases h1 : self < k
        · exact grow_in k self (cnt self k) (cnt self (k + 1)) w (by omega) (by omega) h1 rfl rfl (by unfold cnt; rw [if_pos (by omega)]; omega) (by unfold cnt; rw [if_pos (by omega), if_pos (by omega)]; omega)
        · exact grow_big k self (cnt self k) (cnt self (k + 1)) w (by omega) (by omega) rfl rfl (by unfold cnt; rw [if_neg (by omega)]) (by unfold cnt; rw [if_neg (by omega), if_neg (by omega)]; omega)

end Go.Proofs.Qxb6627469a
