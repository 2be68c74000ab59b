/-
  Seat b6627422a: FnCloneTwiceIsIndependentCopy (function 3): the walk.
-/
import Derived.Test.Qxb6627422aJoint
namespace Go.Proofs.Qxb6627422a
open Go.RowKit

set_option maxHeartbeats 1000000 in
theorem twice_any (ao : Option Addr) (n c : Nat) (R : Nat → Prop) (ts : List TD) (w : World) (hn : n * 80 ≤ 140737488351232) (hl : ts.length = n) (hnil : ao = none → n = 0 ∧ c = 0) (hR : ∀ b, R b → b < w.heap.size) (hL : ListAt R w ao ts) :
    Calls Try.prog 3 #[.slice ao n c] w fun e w' => e = .returned (.bool true) ∧ Below w.heap.size w w' := by
  have q1 := fun (w : World) (a : Option Addr) (n c : Nat) => Lib.run_eql_slice_nil (P := Try.prog) w 25 36 a n c 0 0 Try.underlying25
  have HL : Hid (ts.length = n) := hl
  have HN : Hid (ao = none → n = 0 ∧ c = 0) := hnil
  clear hl hnil
  go_enter Try.func3, Try.ntmps3
  go_wp2_with fail
  refine (bytes5_any ao n c R ts _ hn HL.out hR hL).mono ?_
  rintro e w1 ⟨⟨b1, rfl⟩, hb1⟩
  cases b1 with
  | false =>
    go_wp2
    go_ret
    exact ⟨rfl, hb1⟩
  | true =>
    go_wp2_with fail
    have hL1 : ListAt R w1 ao ts := hL.move (fun _ h => h) fun b hb => hb1.block b (hR b hb)
    have hR1 : ∀ b, R b → b < w1.heap.size := fun b hb => Nat.lt_of_lt_of_le (hR b hb) hb1.size
    refine (tooBig_any ao n c R ts _ hn HL.out hR1 hL1).mono ?_
    rintro e w2 ⟨⟨b2, rfl⟩, hb2⟩
    cases b2 with
    | true =>
      go_wp2
      go_ret
      exact ⟨rfl, hb1.trans (hb2.mono hb1.size)⟩
    | false =>
      have hL2 : ListAt R w2 ao ts := hL1.move (fun _ h => h) fun b hb => hb2.block b (hR1 b hb)
      have hR2 : ∀ b, R b → b < w2.heap.size := fun b hb => Nat.lt_of_lt_of_le (hR1 b hb) hb2.size
      go_wp2_with fail
      refine (toTodos_v ao n c R ts _ hn HL.out HN.out hR2 hL2).mono ?_
      rintro e w3 ⟨la, lc, rfl, l3, s3, hb3⟩
      have z3 := hb3.size
      go_wp2_with fail
      refine (clone_v la n lc _ ts _ hn HL.out (fun b hb => hb.2) l3).mono ?_
      rintro e w4 ⟨g1, k1, rfl, l4, s4, hb4⟩
      have z4 := hb4.size
      go_wp2_with fail
      refine (clone_v _ n k1 _ ts _ hn HL.out (fun b hb => hb.2) l4).mono ?_
      rintro e w5 ⟨g2, k2, rfl, l5, s5, hb5⟩
      have z5 := hb5.size
      have hL5 : ListAt (fun b => b < w5.heap.size) w5 ao ts := hL2.move (fun b hb => by have := hR2 b hb; omega) fun b hb => by
        have := hR2 b hb
        rw [hb5.block b (by omega), hb4.block b (by omega), hb3.block b (by omega)]
      have l45 : ListAt (fun b => b < w5.heap.size) w5 (some ⟨g1, 0, none⟩) ts := l4.move (fun b hb => by have := hb.2; omega) fun b hb => hb5.block b hb.2
      have l55 : ListAt (fun b => b < w5.heap.size) w5 (some ⟨g2, 0, none⟩) ts := l5.move (fun b hb => hb.2) fun b hb => rfl
      go_wp2_with fail
      refine (same_list _ ts _ ao n k1 c _ HL.out hn (fun b hb => hb) l45 hL5).mono ?_
      rintro e w6 ⟨rfl, hb6⟩
      have z6 := hb6.size
      have hL6 : ListAt (fun b => b < w5.heap.size) w6 ao ts := hL5.move (fun b hb => hb) fun b hb => hb6.block b hb
      have l56 : ListAt (fun b => b < w5.heap.size) w6 (some ⟨g2, 0, none⟩) ts := l55.move (fun b hb => hb) fun b hb => hb6.block b hb
      go_wp2_with fail
      refine (same_list _ ts _ ao n k2 c _ HL.out hn (fun b hb => by omega) l56 hL6).mono ?_
      rintro e w7 ⟨rfl, hb7⟩
      have z7 := hb7.size
      have s37 : SpV w2.heap.size w3.heap.size w7 la n lc := s3.move fun b _ hb => by
        rw [hb7.block b (by omega), hb6.block b (by omega), hb5.block b (by omega), hb4.block b hb]
      have s47 : SpV w3.heap.size w4.heap.size w7 (some ⟨g1, 0, none⟩) n k1 := s4.move fun b _ hb => by
        rw [hb7.block b (by omega), hb6.block b (by omega), hb5.block b (by omega)]
      go_wp2_with fail
      refine (spoil_v w2.heap.size w3.heap.size la n lc _ hn s37).mono ?_
      rintro e w8 ⟨rfl, hb8⟩
      have s48 : SpV w3.heap.size w4.heap.size w8 (some ⟨g1, 0, none⟩) n k1 := s47.move fun b hb _ => hb8.block b (Or.inr hb)
      go_wp2_with fail
      refine (spoil_v w3.heap.size w4.heap.size _ n k1 _ hn s48).mono ?_
      rintro e w9 ⟨rfl, hb9⟩
      have z8 := hb8.size
      have z9 := hb9.size
      have hL9 : ListAt (fun b => b < w5.heap.size) w9 ao ts := hL2.move (fun b hb => by have := hR2 b hb; omega) fun b hb => by
        have := hR2 b hb
        rw [hb9.block b (Or.inl (by omega)), hb8.block b (Or.inl this), hb7.block b (by omega), hb6.block b (by omega), hb5.block b (by omega), hb4.block b (by omega), hb3.block b this]
      have l59 : ListAt (fun b => b < w5.heap.size) w9 (some ⟨g2, 0, none⟩) ts := l5.move (fun b hb => hb.2) fun b hb => by
        obtain ⟨h1, h2⟩ := hb
        rw [hb9.block b (Or.inr h1), hb8.block b (Or.inr (by omega)), hb7.block b (by omega), hb6.block b (by omega)]
      go_wp2_with fail
      refine (same_list _ ts _ ao n k2 c _ HL.out hn (fun b hb => by omega) l59 hL9).mono ?_
      rintro e w10 ⟨rfl, hb10⟩
      go_wp2
      go_ret
      have z1 := hb1.size
      have z2 := hb2.size
      have B3 : Below w.heap.size w w3 := (hb1.trans (hb2.mono hb1.size)).trans (hb3.mono (by omega))
      have B5 : Below w.heap.size w w5 := (B3.trans (hb4.mono (by omega))).trans (hb5.mono (by omega))
      have B7 : Below w.heap.size w w7 := (B5.trans (hb6.mono (by omega))).trans (hb7.mono (by omega))
      have B9 : Below w.heap.size w w9 := (B7.trans (hb8.below.mono (by omega))).trans (hb9.below.mono (by omega))
      exact ⟨rfl, B9.trans (hb10.mono (by omega))⟩
end Go.Proofs.Qxb6627422a
