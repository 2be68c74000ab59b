/-
  Seat b6627422a: the two zzBytes (functions 5 and 11): they answer a bool and write nothing.
-/
import Derived.Test.Qxb6627422aBig
namespace Go.Proofs.Qxb6627422a
open Go.RowKit

set_option maxRecDepth 100000 in
set_option maxHeartbeats 1000000 in
theorem bytes5_any (ao : Option Addr) (n c : Nat) (R : Nat → Prop) (ts : List TD) (w : World) (hn : n * 80 ≤ 140737488351232) (hl : ts.length = n) (hR : ∀ b, R b → b < w.heap.size) (hL : ListAt R w ao ts) :
    Calls Try.prog 5 #[.slice ao n c] w fun e w' => AnyBool e ∧ Below w.heap.size w w' := by
  have HL : Hid (ts.length = n) := hl
  clear hl
  by_cases hbig : 1048576 < n
  · go_enter Try.func5, Try.ntmps5
    go_wp2
    go_ret
    exact ⟨⟨_, rfl⟩, Below.refl _ _⟩
  go_enter Try.func5, Try.ntmps5
  go_wp2
  go_loopw [3, 4] (fun t i wr => ∃ k : Nat, ∃ tot : Int, k ≤ n ∧ i = .int .i64 k ∧ t = .int .i64 tot ∧ 0 ≤ tot ∧ tot ≤ 1048576 ∧ Below w.heap.size w wr) (fun _ i _ => n - (intOf i).toNat)
  case atStart => exact ⟨0, _, Nat.zero_le _, rfl, rfl, by omega, by omega, Below.refl _ _⟩
  case round =>
    rename World => wo
    obtain ⟨k, tot, hk, rfl, rfl, ht0, ht1, hbel⟩ := hrel
    by_cases hlt : k < n
    · obtain ⟨t, ht⟩ : ∃ t, ts[k]? = some t := ⟨_, List.getElem?_eq_getElem (by rw [HL.out]; exact hlt)⟩
      obtain ⟨b', o', na, nm, nc, rfl, hT⟩ := hL k t ht
      have hT := hT.move (w' := wo) (fun _ h => h) (fun b hb => hbel.block b (hR b hb))
      obtain ⟨hRb, z0, z1, z2, c0, c1, c2, c3, c4, nt⟩ := hT
      have hnm := nt.len
      clear ht hL
      go_wp2
      all_goals first | (go_ret; exact ⟨⟨_, rfl⟩, hbel⟩) | skip
      clear c0 c1 c2 c3
      go_loopw [3, 5] (fun tt j wi => ∃ jj : Nat, ∃ tt' : Int, jj ≤ nm ∧ j = .int .i64 jj ∧ tt = .int .i64 tt' ∧ 0 ≤ tt' ∧ tt' ≤ 1048576 ∧ Below wo.heap.size wo wi) (fun _ j _ => nm - (intOf j).toNat)
      case atStart => exact ⟨0, _, Nat.zero_le _, rfl, rfl, by omega, by omega, Below.refl _ _⟩
      case round =>
        obtain ⟨jj, tt', hj, rfl, rfl, hu0, hu1, hb2⟩ := hrel
        have hRo : ∀ b, R b → b < wo.heap.size := fun b hb => Nat.lt_of_lt_of_le (hR b hb) hbel.size
        have d4 := (cell_of (hb2.block _ (hRo _ hRb)) (o' + k * 5 + 4)).trans c4
        have hb3 : Below w.heap.size w wr := hbel.trans (hb2.mono hbel.size)
        by_cases hlt2 : jj < nm
        · obtain ⟨b2, o2, s, rfl, hs, hsz, hRs⟩ := nt.get hlt2
          have e0 := (cell_of (hb2.block _ (hRo _ hRs)) (o2 + jj)).trans hs
          clear hs c4
          go_wp2
          all_goals first | (go_ret; exact ⟨⟨_, rfl⟩, hb3⟩) | skip
          go_roundw
          case rel => exact ⟨jj + 1, _, by omega, by go_num, rfl, by omega, by omega, hb2⟩
          case measure => simp [intOf]; omega
        · go_wp2
          go_roundw
          case rel => exact ⟨k + 1, _, by omega, by go_num, rfl, by omega, by omega, hb3⟩
          case measure => simp [intOf]; omega
    · go_wp2
      go_ret
      exact ⟨⟨_, rfl⟩, hbel⟩

set_option maxRecDepth 100000 in
set_option maxHeartbeats 1000000 in
theorem bytes11_any (q : Int) (ao : Option Addr) (n c : Nat) (R : Nat → Prop) (ts : List TD) (w : World) (hn : n * 80 ≤ 140737488351232) (hl : ts.length = n) (hR : ∀ b, R b → b < w.heap.size) (hL : ListAt R w ao ts) :
    Calls Try.prog 11 #[.slice ao n c, .int .i64 q] w fun e w' => AnyBool e ∧ Below w.heap.size w w' := by
  have HL : Hid (ts.length = n) := hl
  clear hl
  by_cases hbig : 1048576 < n
  · go_enter Try.func11, Try.ntmps11
    go_wp2
    go_ret
    exact ⟨⟨_, rfl⟩, Below.refl _ _⟩
  go_enter Try.func11, Try.ntmps11
  go_wp2
  go_loopw [5, 6] (fun t i wr => ∃ k : Nat, ∃ tot : Int, k ≤ n ∧ i = .int .i64 k ∧ t = .int .i64 tot ∧ 0 ≤ tot ∧ tot ≤ 1048576 ∧ Below w.heap.size w wr) (fun _ i _ => n - (intOf i).toNat)
  case atStart => exact ⟨0, _, Nat.zero_le _, rfl, rfl, by omega, by omega, Below.refl _ _⟩
  case round =>
    rename World => wo
    obtain ⟨k, tot, hk, rfl, rfl, ht0, ht1, hbel⟩ := hrel
    by_cases hlt : k < n
    · obtain ⟨t, ht⟩ : ∃ t, ts[k]? = some t := ⟨_, List.getElem?_eq_getElem (by rw [HL.out]; exact hlt)⟩
      obtain ⟨b', o', na, nm, nc, rfl, hT⟩ := hL k t ht
      have hT := hT.move (w' := wo) (fun _ h => h) (fun b hb => hbel.block b (hR b hb))
      obtain ⟨hRb, z0, z1, z2, c0, c1, c2, c3, c4, nt⟩ := hT
      have hnm := nt.len
      clear ht hL
      go_wp2
      all_goals first | (go_ret; exact ⟨⟨_, rfl⟩, hbel⟩) | skip
      clear c0 c1 c2 c3
      go_loopw [5, 7] (fun tt j wi => ∃ jj : Nat, ∃ tt' : Int, jj ≤ nm ∧ j = .int .i64 jj ∧ tt = .int .i64 tt' ∧ 0 ≤ tt' ∧ tt' ≤ 1048576 ∧ Below wo.heap.size wo wi) (fun _ j _ => nm - (intOf j).toNat)
      case atStart => exact ⟨0, _, Nat.zero_le _, rfl, rfl, by omega, by omega, Below.refl _ _⟩
      case round =>
        obtain ⟨jj, tt', hj, rfl, rfl, hu0, hu1, hb2⟩ := hrel
        have hRo : ∀ b, R b → b < wo.heap.size := fun b hb => Nat.lt_of_lt_of_le (hR b hb) hbel.size
        have d4 := (cell_of (hb2.block _ (hRo _ hRb)) (o' + k * 5 + 4)).trans c4
        have hb3 : Below w.heap.size w wr := hbel.trans (hb2.mono hbel.size)
        by_cases hlt2 : jj < nm
        · obtain ⟨b2, o2, s, rfl, hs, hsz, hRs⟩ := nt.get hlt2
          have e0 := (cell_of (hb2.block _ (hRo _ hRs)) (o2 + jj)).trans hs
          clear hs c4
          go_wp2
          all_goals first | (go_ret; exact ⟨⟨_, rfl⟩, hb3⟩) | skip
          go_roundw
          case rel => exact ⟨jj + 1, _, by omega, by go_num, rfl, by omega, by omega, hb2⟩
          case measure => simp [intOf]; omega
        · go_wp2
          go_roundw
          case rel => exact ⟨k + 1, _, by omega, by go_num, rfl, by omega, by omega, hb3⟩
          case measure => simp [intOf]; omega
    · go_wp2
      go_ret
      exact ⟨⟨_, rfl⟩, hbel⟩

end Go.Proofs.Qxb6627422a
