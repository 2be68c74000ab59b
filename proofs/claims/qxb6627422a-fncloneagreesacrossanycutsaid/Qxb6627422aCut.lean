/-
  Seat b6627422a: FnCloneAgreesAcrossAnyCut (function 4): the walk.
-/
import Derived.Test.Qxb6627422aJoint
namespace Go.Proofs.Qxb6627422a
open Go.RowKit

theorem ListAt.take {R : Nat → Prop} {w : World} {ao : Option Addr} {ts : List TD} (h : ListAt R w ao ts) (k : Nat) : ListAt R w ao (ts.take k) := by
  intro i t hi
  rw [List.getElem?_take] at hi
  split at hi
  · exact h i t hi
  · cases hi

theorem ListAt.drop {R : Nat → Prop} {w : World} {g : Nat} {ts : List TD} (h : ListAt R w (some ⟨g, 0, none⟩) ts) (k : Nat) : ListAt R w (some ⟨g, k * 5, none⟩) (ts.drop k) := by
  intro i t hi
  rw [List.getElem?_drop] at hi
  obtain ⟨b, o, na, nm, nc, e, q⟩ := h (k + i) t hi
  cases e
  refine ⟨g, k * 5, na, nm, nc, rfl, ?_⟩
  rw [show k * 5 + i * 5 = 0 + (k + i) * 5 from by omega]
  exact q

theorem ListAt.none {R : Nat → Prop} {w : World} {ao : Option Addr} : ListAt R w ao [] := fun i t hi => by simp at hi

/-- 'l[k:]' -/
theorem slice_from {R : Nat → Prop} {w : World} {g : Nat} {ts : List TD} (k n : Nat) (hk : k ≤ n) (hl : ts.length = n) (h : ListAt R w (some ⟨g, 0, none⟩) ts) :
    ∃ ra, ListAt R w ra (ts.drop k) ∧ ∀ w, (Instr.sliceAt 25 (.slice (some ⟨g, 0, none⟩) n n) (some (.int .i64 k)) none none).run Try.prog w = .ok (.slice ra (n - k) (n - k)) w := by
  by_cases e : k = n
  · subst e
    refine ⟨some ⟨g, 0, none⟩, ?_, fun w => ?_⟩
    · rw [List.drop_eq_nil_of_le (by omega)]
      exact ListAt.none
    · go_simp
  · refine ⟨_, h.drop k, fun w => ?_⟩
    have e1 : ¬ n = k := fun h => e h.symm
    go_simp

set_option maxHeartbeats 1000000 in
theorem cut_some (a : Addr) (n c k : Nat) (R : Nat → Prop) (ts : List TD) (w : World) (hn : n * 80 ≤ 140737488351232) (hk : k ≤ n) (hl : ts.length = n) (hR : ∀ b, R b → b < w.heap.size) (hL : ListAt R w (some a) ts) :
    Calls Try.prog 4 #[.slice (some a) n c, .int .i64 k] w fun e w' => e = .returned (.bool true) ∧ Below w.heap.size w w' := by
  have q1 := fun (w : World) (a : Option Addr) (n c : Nat) => Lib.run_eql_slice_nil (P := Try.prog) w 25 36 a n c 0 0 Try.underlying25
  have HL : Hid (ts.length = n) := hl
  clear hl
  go_enter Try.func4, Try.ntmps4
  go_wp2_with fail
  refine (bytes11_any k (some a) n c R ts _ hn HL.out hR hL).mono ?_
  rintro e w1 ⟨⟨b1, rfl⟩, hb1⟩
  cases b1 with
  | false =>
    go_wp2
    go_ret
    exact ⟨rfl, hb1⟩
  | true =>
    go_wp2_with fail
    have hL1 : ListAt R w1 (some a) ts := hL.move (fun _ h => h) fun b hb => hb1.block b (hR b hb)
    have hR1 : ∀ b, R b → b < w1.heap.size := fun b hb => Nat.lt_of_lt_of_le (hR b hb) hb1.size
    refine (tooBig_any (some a) n c R ts _ hn HL.out hR1 hL1).mono ?_
    rintro e w2 ⟨⟨b2, rfl⟩, hb2⟩
    cases b2 with
    | true =>
      go_wp2
      go_ret
      exact ⟨rfl, hb1.trans (hb2.mono hb1.size)⟩
    | false =>
      have hL2 : ListAt R w2 (some a) ts := hL1.move (fun _ h => h) fun b hb => hb2.block b (hR1 b hb)
      have hR2 : ∀ b, R b → b < w2.heap.size := fun b hb => Nat.lt_of_lt_of_le (hR1 b hb) hb2.size
      go_wp2_with fail
      refine (toTodos_any a n c R ts _ hn HL.out hR2 hL2).mono ?_
      rintro e w3 ⟨g, rfl, ho, hb3⟩
      have l3 : ListAt (Rng w2.heap.size w3.heap.size) w3 (some ⟨g, 0, none⟩) ts := by rw [← HL.out] at ho; exact ho.at
      have s3 : SpV w2.heap.size w3.heap.size w3 (some ⟨g, 0, none⟩) n n := by have h := HL.out; subst h; exact Or.inr ⟨g, rfl, ho.sp⟩
      have z3 := hb3.size
      go_wp2_with fail
      refine (clone_v _ n n _ ts _ hn HL.out (fun b hb => hb.2) l3).mono ?_
      rintro e w4 ⟨g1, k1, rfl, l4, s4, hb4⟩
      have z4 := hb4.size
      have l34 : ListAt (Rng w2.heap.size w3.heap.size) w4 (some ⟨g, 0, none⟩) ts := l3.move (fun b hb => hb) fun b hb => hb4.block b hb.2
      have hlk : (ts.take k).length = k := by rw [List.length_take, HL.out]; omega
      have hrk : (ts.drop k).length = n - k := by rw [List.length_drop, HL.out]
      have HLK : Hid ((ts.take k).length = k) := hlk
      have HRK : Hid ((ts.drop k).length = n - k) := hrk
      clear hlk hrk
      go_wp2_with fail
      refine (clone_v _ k n _ (ts.take k) _ (by omega) HLK.out (fun b (hb : Rng w2.heap.size w3.heap.size b) => by have := hb.2; omega) (l34.take k)).mono ?_
      rintro e w5 ⟨g2, k2, rfl, l5, s5, hb5⟩
      have z5 := hb5.size
      have l35 : ListAt (Rng w2.heap.size w3.heap.size) w5 (some ⟨g, 0, none⟩) ts := l34.move (fun b hb => hb) fun b hb => hb5.block b (by have := hb.2; omega)
      obtain ⟨ra, l35r, hsl⟩ := slice_from k n hk HL.out l35
      go_wp2_with fail
      refine (clone_v ra (n - k) (n - k) _ (ts.drop k) _ (by omega) HRK.out (fun b (hb : Rng w2.heap.size w3.heap.size b) => by have := hb.2; omega) l35r).mono ?_
      rintro e w6 ⟨g3, k3, rfl, l6, s6, hb6⟩
      have z6 := hb6.size
      have B6 : Below w2.heap.size w2 w6 := ((hb3.trans (hb4.mono (by omega))).trans (hb5.mono (by omega))).trans (hb6.mono (by omega))
      have hL6 : ListAt (fun b => b < w6.heap.size) w6 (some a) ts := hL2.move (fun b hb => by have := hR2 b hb; omega) fun b hb => B6.block b (hR2 b hb)
      have l46 : ListAt (fun b => b < w6.heap.size) w6 (some ⟨g1, 0, none⟩) ts := l4.move (fun b hb => by have := hb.2; omega) fun b hb => by
        have := hb.2
        rw [hb6.block b (by omega), hb5.block b (by omega)]
      have l56 : ListAt (fun b => b < w6.heap.size) w6 (some ⟨g2, 0, none⟩) (ts.take k) := l5.move (fun b hb => by have := hb.2; omega) fun b hb => hb6.block b hb.2
      have l66 : ListAt (fun b => b < w6.heap.size) w6 (some ⟨g3, 0, none⟩) (ts.drop k) := l6.move (fun b hb => hb.2) fun b hb => rfl
      clear l34 l35 l35r hsl l3
      go_wp2_with fail
      refine (same_list _ ts _ (some a) n k1 c _ HL.out hn (fun b hb => hb) l46 hL6).mono ?_
      rintro e w7 ⟨rfl, hb7⟩
      have z7 := hb7.size
      go_wp2
      go_loopw [9] (fun i wr => ∃ j : Nat, j ≤ k ∧ i = .int .i64 j ∧ Below w6.heap.size w6 wr) (fun i _ => k - (intOf i).toNat)
      case atStart => exact ⟨0, Nat.zero_le _, rfl, hb7⟩
      case round =>
        obtain ⟨j, hj, rfl, hbel⟩ := hrel
        by_cases hlt : j < k
        · obtain ⟨t, ht⟩ : ∃ t, ts[j]? = some t := ⟨_, List.getElem?_eq_getElem (by rw [HL.out]; omega)⟩
          obtain ⟨b1, o1, na1, nm1, nc1, e1, t1⟩ := l56 j t (by rw [List.getElem?_take, if_pos hlt]; exact ht)
          cases e1
          obtain ⟨b2, o2, na2, nm2, nc2, e2, t2⟩ := hL6 j t ht
          cases e2
          have t1 := t1.move (w' := wr) (fun _ h => h) (fun b hb => hbel.block b hb)
          have t2 := t2.move (w' := wr) (fun _ h => h) (fun b hb => hbel.block b hb)
          obtain ⟨_, _, _, _, c0, c1, c2, c3, c4, nt⟩ := t1
          obtain ⟨_, _, _, _, d0, d1, d2, d3, d4, nt2⟩ := t2
          rw [Nat.zero_add] at c0 c1 c2 c3 c4
          clear ht
          have call : ∀ j : Nat, Calls Try.prog 12 #[.agg #[.string t.c, .string t.k, .string t.s, .bool t.r, .slice na1 nm1 nc1], .agg #[.string t.c, .string t.k, .string t.s, .bool t.r, .slice na2 nm2 nc2]] wr.drew
              fun e w' => e = .returned (.bool true) ∧ Below wr.heap.size wr w' := fun _ =>
            (same_todo _ t na1 na2 nm1 nc1 nm2 nc2 wr.drew (fun b hb => Nat.lt_of_lt_of_le hb hbel.size) (nt.move (fun _ h => h) (fun _ _ => rfl)) (nt2.move (fun _ h => h) (fun _ _ => rfl))).mono fun e w' h => ⟨h.1, ((Below.refl _ wr).drew).trans h.2⟩
          go_wp2
          go_region_with (go_at_call 12; refine (call 0).mono ?_; rintro e w1 ⟨rfl, hb1⟩)
          all_goals
            clear call c0 c1 c2 c3 c4 d0 d1 d2 d3 d4
            go_wp2
            go_roundw
            case rel => exact ⟨j + 1, by omega, by go_num, hbel.trans (Below.mono (by assumption) hbel.size)⟩
            case measure => simp [intOf]; omega
        · go_wp2
          go_loopw [10] (fun i wi => ∃ j : Nat, k ≤ j ∧ j ≤ n ∧ i = .int .i64 j ∧ Below w6.heap.size w6 wi) (fun i _ => n - (intOf i).toNat)
          case atStart => exact ⟨k, Nat.le_refl _, hk, rfl, hbel⟩
          case round =>
            clear hbel
            obtain ⟨i, hi0, hi, rfl, hbel⟩ := hrel
            by_cases hlt2 : i < n
            · obtain ⟨t, ht⟩ : ∃ t, ts[i]? = some t := ⟨_, List.getElem?_eq_getElem (by rw [HL.out]; omega)⟩
              obtain ⟨b1, o1, na1, nm1, nc1, e1, t1⟩ := l66 (i - k) t (by rw [List.getElem?_drop, show k + (i - k) = i from by omega]; exact ht)
              cases e1
              obtain ⟨b2, o2, na2, nm2, nc2, e2, t2⟩ := hL6 i t ht
              cases e2
              have t1 := t1.move (w' := wr) (fun _ h => h) (fun b hb => hbel.block b hb)
              have t2 := t2.move (w' := wr) (fun _ h => h) (fun b hb => hbel.block b hb)
              obtain ⟨_, _, _, _, c0, c1, c2, c3, c4, nt⟩ := t1
              obtain ⟨_, _, _, _, d0, d1, d2, d3, d4, nt2⟩ := t2
              rw [Nat.zero_add] at c0 c1 c2 c3 c4
              clear ht
              have call : ∀ j : Nat, Calls Try.prog 12 #[.agg #[.string t.c, .string t.k, .string t.s, .bool t.r, .slice na1 nm1 nc1], .agg #[.string t.c, .string t.k, .string t.s, .bool t.r, .slice na2 nm2 nc2]] wr.drew
                  fun e w' => e = .returned (.bool true) ∧ Below wr.heap.size wr w' := fun _ =>
                (same_todo _ t na1 na2 nm1 nc1 nm2 nc2 wr.drew (fun b hb => Nat.lt_of_lt_of_le hb hbel.size) (nt.move (fun _ h => h) (fun _ _ => rfl)) (nt2.move (fun _ h => h) (fun _ _ => rfl))).mono fun e w' h => ⟨h.1, ((Below.refl _ wr).drew).trans h.2⟩
              have x1 : (i : Int) - (k : Int) = ((i - k : Nat) : Int) := by omega
              have x2 : ((i - k : Nat) : Int) < ((n - k : Nat) : Int) := by omega
              have x3 : IntKind.i64.wrap ((i - k : Nat) : Int) = ((i - k : Nat) : Int) := by rw [IntKind.wrap_i64]; omega
              go_wp2
              go_region_with (go_at_call 12; refine (call 0).mono ?_; rintro e w1 ⟨rfl, hb1⟩)
              all_goals
                clear call c0 c1 c2 c3 c4 d0 d1 d2 d3 d4
                go_wp2
                go_roundw
                case rel => exact ⟨i + 1, by omega, by omega, by go_num, hbel.trans (Below.mono (by assumption) hbel.size)⟩
                case measure => simp [intOf]; omega
            · have z9 := hbel.size
              have s59 : SpV w4.heap.size w5.heap.size wr (some ⟨g2, 0, none⟩) k k2 := s5.move fun b _ hb => by
                rw [hbel.block b (by omega), hb6.block b hb]
              go_wp2_with fail
              refine (spoil_v w4.heap.size w5.heap.size _ k k2 _ (by omega) s59).mono ?_
              rintro e w10 ⟨rfl, hb10⟩
              have z10 := hb10.size
              have s610 : SpV w5.heap.size w6.heap.size w10 (some ⟨g3, 0, none⟩) (n - k) k3 := s6.move fun b hb hb2 => by
                rw [hb10.block b (Or.inr hb), hbel.block b hb2]
              go_wp2_with fail
              refine (spoil_v w5.heap.size w6.heap.size _ (n - k) k3 _ (by omega) s610).mono ?_
              rintro e w11 ⟨rfl, hb11⟩
              have z11 := hb11.size
              have s311 : SpV w2.heap.size w3.heap.size w11 (some ⟨g, 0, none⟩) n n := s3.move fun b _ hb => by
                rw [hb11.block b (Or.inl (by omega)), hb10.block b (Or.inl (by omega)), hbel.block b (by omega), hb6.block b (by omega), hb5.block b (by omega), hb4.block b hb]
              go_wp2_with fail
              refine (spoil_v w2.heap.size w3.heap.size _ n n _ hn s311).mono ?_
              rintro e w12 ⟨rfl, hb12⟩
              have z12 := hb12.size
              have hL12 : ListAt (fun b => b < w12.heap.size) w12 (some a) ts := hL2.move (fun b hb => by have := hR2 b hb; omega) fun b hb => by
                have := hR2 b hb
                rw [hb12.block b (Or.inl (by omega)), hb11.block b (Or.inl (by omega)), hb10.block b (Or.inl (by omega)), hbel.block b (by omega), B6.block b (by omega)]
              have l412 : ListAt (fun b => b < w12.heap.size) w12 (some ⟨g1, 0, none⟩) ts := l4.move (fun b hb => by have := hb.2; omega) fun b hb => by
                obtain ⟨h1, h2⟩ := hb
                rw [hb12.block b (Or.inr (by omega)), hb11.block b (Or.inl (by omega)), hb10.block b (Or.inl (by omega)), hbel.block b (by omega), hb6.block b (by omega), hb5.block b (by omega)]
              go_wp2_with fail
              refine (same_list _ ts _ (some a) n k1 c _ HL.out hn (fun b hb => hb) l412 hL12).mono ?_
              rintro e w13 ⟨rfl, hb13⟩
              go_wp2
              go_ret
              have z1 := hb1.size
              have z2 := hb2.size
              have A6 : Below w.heap.size w w6 := (hb1.trans (hb2.mono hb1.size)).trans (B6.mono (by omega))
              have A9 : Below w.heap.size w wr := A6.trans (hbel.mono (by omega))
              have A11 : Below w.heap.size w w11 := (A9.trans (hb10.below.mono (by omega))).trans (hb11.below.mono (by omega))
              exact ⟨rfl, (A11.trans (hb12.below.mono (by omega))).trans (hb13.mono (by omega))⟩

set_option maxHeartbeats 1000000 in
theorem cut_out (ao : Option Addr) (n c : Nat) (q : Int) (R : Nat → Prop) (ts : List TD) (w : World) (hn : n * 80 ≤ 140737488351232) (hq : q < 0 ∨ (n : Int) < q) (hl : ts.length = n) (hR : ∀ b, R b → b < w.heap.size) (hL : ListAt R w ao ts) :
    Calls Try.prog 4 #[.slice ao n c, .int .i64 q] w fun e w' => e = .returned (.bool true) ∧ Below w.heap.size w w' := by
  have HL : Hid (ts.length = n) := hl
  clear hl
  go_enter Try.func4, Try.ntmps4
  go_wp2_with fail
  refine (bytes11_any q ao n c R ts _ hn HL.out hR hL).mono ?_
  rintro e w1 ⟨⟨b1, rfl⟩, hb1⟩
  cases b1 with
  | false =>
    go_wp2
    go_ret
    exact ⟨rfl, hb1⟩
  | true =>
    go_wp2_with fail
    have hL1 : ListAt R w1 ao ts := hL.move (fun _ h => h) fun b hb => hb1.block b (hR b hb)
    have hR1 : ∀ b, R b → b < w1.heap.size := fun b hb => Nat.lt_of_lt_of_le (hR b hb) hb1.size
    refine (tooBig_any ao n c R ts _ hn HL.out hR1 hL1).mono ?_
    rintro e w2 ⟨⟨b2, rfl⟩, hb2⟩
    cases b2 with
    | true =>
      go_wp2
      go_ret
      exact ⟨rfl, hb1.trans (hb2.mono hb1.size)⟩
    | false =>
      rcases hq with hq | hq
      · go_wp2
        go_ret
        exact ⟨rfl, hb1.trans (hb2.mono hb1.size)⟩
      · have hq0 : ¬ q < 0 := by omega
        go_wp2
        go_ret
        exact ⟨rfl, hb1.trans (hb2.mono hb1.size)⟩

set_option maxHeartbeats 1000000 in
theorem cut_nil (w : World) :
    Calls Try.prog 4 #[.slice none 0 0, .int .i64 0] w fun e w' => e = .returned (.bool true) ∧ Below w.heap.size w w' := by
  have q1 := fun (w : World) (a : Option Addr) (n c : Nat) => Lib.run_eql_slice_nil (P := Try.prog) w 25 36 a n c 0 0 Try.underlying25
  have hL : ∀ (w : World) (ao : Option Addr), ListAt (fun _ => False) w ao [] := fun _ _ => ListAt.none
  have HLL : Hid (∀ (w : World) (ao : Option Addr), ListAt (fun _ => False) w ao []) := hL
  clear hL
  go_enter Try.func4, Try.ntmps4
  go_wp2_with fail
  refine (bytes11_any 0 none 0 0 _ [] _ (by omega) rfl (fun _ h => h.elim) (HLL.out _ _)).mono ?_
  rintro e w1 ⟨⟨b1, rfl⟩, hb1⟩
  cases b1 with
  | false =>
    go_wp2
    go_ret
    exact ⟨rfl, hb1⟩
  | true =>
    go_wp2_with fail
    refine (tooBig_any none 0 0 _ [] _ (by omega) rfl (fun _ h => h.elim) (HLL.out _ _)).mono ?_
    rintro e w2 ⟨⟨b2, rfl⟩, hb2⟩
    have B2 := hb1.trans (hb2.mono hb1.size)
    have z2 : w.heap.size ≤ w2.heap.size := B2.size
    clear hb1 hb2
    cases b2 with
    | true =>
      go_wp2
      go_ret
      exact ⟨rfl, B2⟩
    | false =>
      go_wp2_with fail
      refine (toTodos_nil _).mono ?_
      rintro e w3 ⟨rfl, h3⟩
      subst h3
      go_wp2_with fail
      refine (clone_v none 0 0 _ [] _ (by omega) rfl (fun _ h => h.elim) (HLL.out _ _)).mono ?_
      rintro e w4 ⟨g1, k1, rfl, _, _, hb4⟩
      have z4 := hb4.size
      go_wp2_with fail
      refine (clone_v none 0 0 _ [] _ (by omega) rfl (fun _ h => h.elim) (HLL.out _ _)).mono ?_
      rintro e w5 ⟨g2, k2, rfl, _, s5, hb5⟩
      have z5 := hb5.size
      go_wp2_with fail
      refine (clone_v none 0 0 _ [] _ (by omega) rfl (fun _ h => h.elim) (HLL.out _ _)).mono ?_
      rintro e w6 ⟨g3, k3, rfl, _, s6, hb6⟩
      have z6 := hb6.size
      go_wp2_with fail
      refine (same_list _ [] _ none 0 k1 0 _ rfl (by omega) (fun _ h => h.elim) (HLL.out _ _) (HLL.out _ _)).mono ?_
      rintro e w7 ⟨rfl, hb7⟩
      have z7 := hb7.size
      go_wp2
      refine wp_loop_rounds 1 ?_
      rw [rounds_succ]
      go_wp2
      refine wp_loop_rounds 1 ?_
      rw [rounds_succ]
      go_wp2_with fail
      have s57 : SpV w4.heap.size w5.heap.size w7 (some ⟨g2, 0, none⟩) 0 k2 := s5.move fun b _ hb => by
        rw [hb7.block b (by omega), hb6.block b hb]
      refine (spoil_v w4.heap.size w5.heap.size _ 0 k2 _ (by omega) s57).mono ?_
      rintro e w8 ⟨rfl, hb8⟩
      have z8 := hb8.size
      have s68 : SpV w5.heap.size w6.heap.size w8 (some ⟨g3, 0, none⟩) 0 k3 := s6.move fun b hb hb2 => by
        rw [hb8.block b (Or.inr hb), hb7.block b hb2]
      go_wp2_with fail
      refine (spoil_v w5.heap.size w6.heap.size _ 0 k3 _ (by omega) s68).mono ?_
      rintro e w9 ⟨rfl, hb9⟩
      have z9 := hb9.size
      go_wp2_with fail
      refine (spoil_nil _).mono ?_
      rintro e w10 ⟨rfl, h10⟩
      subst h10
      go_wp2_with fail
      refine (same_list _ [] _ none 0 k1 0 _ rfl (by omega) (fun _ h => h.elim) (HLL.out _ _) (HLL.out _ _)).mono ?_
      rintro e w11 ⟨rfl, hb11⟩
      go_wp2
      go_ret
      have A6 : Below w.heap.size w w6 := ((B2.trans (hb4.mono (by omega))).trans (hb5.mono (by omega))).trans (hb6.mono (by omega))
      have A9 := ((A6.trans (hb7.mono (by omega))).trans (hb8.below.mono (by omega))).trans (hb9.below.mono (by omega))
      exact ⟨rfl, A9.trans (hb11.mono (by omega))⟩

theorem cut_any (ao : Option Addr) (n c : Nat) (q : Int) (R : Nat → Prop) (ts : List TD) (w : World) (hn : n * 80 ≤ 140737488351232) (hl : ts.length = n) (hnil : ao = none → n = 0 ∧ c = 0) (hR : ∀ b, R b → b < w.heap.size) (hL : ListAt R w ao ts) :
    Calls Try.prog 4 #[.slice ao n c, .int .i64 q] w fun e w' => e = .returned (.bool true) ∧ Below w.heap.size w w' := by
  by_cases h0 : q < 0 ∨ (n : Int) < q
  · exact cut_out ao n c q R ts w hn h0 hl hR hL
  · obtain ⟨k, rfl⟩ := Int.eq_ofNat_of_zero_le (a := q) (by omega)
    cases ao with
    | none =>
      obtain ⟨rfl, rfl⟩ := hnil rfl
      obtain rfl : k = 0 := by omega
      exact cut_nil w
    | some a => exact cut_some a n c k R ts w hn (by omega) hl hR hL

end Go.Proofs.Qxb6627422a
