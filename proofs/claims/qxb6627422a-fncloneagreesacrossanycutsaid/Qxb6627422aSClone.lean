/-
  Seat b6627422a: slices.Clone[[]string,string] (function 13) by its contract.
-/
import Derived.Test.Qxb6627422aBase
namespace Go.Proofs.Qxb6627422a
open Go.RowKit

set_option maxHeartbeats 400000 in
theorem sclone_nil (w : World) :
    Calls Try.prog 13 #[.slice none 0 0] w fun e w' => e = .returned (.slice none 0 0) ∧ w' = w := by
  have q1 := fun (w : World) (a : Option Addr) (n c : Nat) => Lib.run_eql_slice_nil (P := Try.prog) w 34 9 a n c 0 0 Try.underlying34
  go_enter Try.func13, Try.ntmps13
  go_wp2
  go_ret
  exact ⟨rfl, rfl⟩

theorem cell_lt {w : World} {a : Addr} {v : Value} (h : w.cell? a = some v) : a.block < w.heap.size := by
  simp only [World.cell?] at h
  by_cases hb : a.block < w.heap.size
  · exact hb
  · rw [Array.getElem?_eq_none (by omega)] at h
    cases h

theorem cell_alloc {w : World} {a : Addr} {v : Value} {o : Obj} (h : w.cell? a = some v) : (w.alloc o).cell? a = some v :=
  (World.cell?_of_block (w := w) (Below.heap_alloc _ _ _ (cell_lt h))).trans h

theorem ownsRow_empty (w : World) : (w.alloc (.cells #[] 9)).ownsRow w.heap.size 9 1 (.slice (some ⟨w.heap.size, 0, none⟩) 0 0) 0 [] :=
  ⟨rfl, Or.inr ⟨w.heap.size, 0, #[], rfl, Nat.le_refl _, heap_alloc_new _ _, Nat.le_refl _, by unfold maxLen; omega, rfl, rfl⟩⟩

set_option maxHeartbeats 400000 in
theorem sclone_some (ad : Addr) (m c : Nat) (news : List Value) (w : World) (hl : news.length = m)
    (hnews : ∀ j u, news[j]? = some u → w.cell? (ad.add j) = some u) (h1 : ∀ u ∈ news, u.oneCell' = true)
    (hb : m * 16 ≤ 140737488351232) :
    Calls Try.prog 13 #[.slice (some ad) m c] w fun e w' => ∃ g cap, e = .returned (.slice (some ⟨g, 0, none⟩) m cap) ∧ w.heap.size ≤ g ∧
      (∀ j u, news[j]? = some u → w'.cell? ⟨g, j, none⟩ = some u) ∧ (∀ j, w'.frozen? ⟨g, j, none⟩ = false) ∧ Below w.heap.size w w' := by
  have q1 := fun (w : World) (a : Option Addr) (n c : Nat) => Lib.run_eql_slice_nil (P := Try.prog) w 34 9 a n c 0 0 Try.underlying34
  obtain ⟨i0, hi, hz0, hz1, hz2⟩ := info_parts Try.info9
  have HL : Hid (news.length = m) := hl
  clear hl
  go_enter Try.func13, Try.ntmps13
  go_wp2_with (at_builtin; refine wpList_append_own _ rfl (.tmp 5) (.tmp 6) 34 rfl w.heap.size 9 i0 (.string ByteArray.empty) 1 16 Try.underlying34 hi hz0 hz1 hz2 rfl (by decide) _ _ _ rfl (ownsRow_empty w) ad m c news rfl ?c0 ?c1 ?c2 ?c3 ?c4 ?c5 ?_)
  case c0 => rw [HL.out, Nat.mul_one]
  case c1 =>
    intro j u hj
    exact cell_alloc (hnews j u hj)
  case c2 => exact h1
  case c3 => unfold maxLen; omega
  case c4 => omega
  case c5 => simp
  intro v' w1 hown' hgrow hnil
  go_wp2
  go_ret
  obtain ⟨_, ⟨h, _⟩ | ⟨g, cap, cur, rfl, hg, hcur, hcap, _, hsz, htk⟩⟩ := hown'
  · exact absurd h hnil
  refine ⟨g, cap, rfl, hg, ?_, ?_, ?_⟩
  · intro j u hj
    rw [← htk, Nat.mul_one, List.getElem?_take] at hj
    by_cases hjm : j < m
    · rw [if_pos hjm] at hj
      simp only [World.cell?, hcur]
      simpa using hj
    · rw [if_neg hjm] at hj
      cases hj
  · intro j
    simp [World.frozen?, hcur]
  · refine ((Below.refl _ w).alloc (Nat.le_refl _) _).grown hgrow (by simp) ?_
    intro k hk
    simp [Value.ownBlock] at hk
    omega
end Go.Proofs.Qxb6627422a
