/-
  Seat b6627422a: sameTodo (function 12) and sameList (function 9) by their contracts: they say true where both read alike.
-/
import Derived.Test.Qxb6627422aRep
import Derived.Deep.QuietTactic
import Derived.BigQuiet
import Derived.Deep.RegionWith
namespace Go.Proofs.Qxb6627422a
open Go.RowKit

/-- two boxes of five cells, as they read behind reads and draws: the fifth cell of each; what lies below -/
theorem box_two {w wr : World} {v0 v1 v2 v3 v4 u0 u1 u2 u3 u4 : Value} {t u : TypeId} (hb : Below (w.heap.size + 2) ((w.alloc (.cells #[v0, v1, v2, v3, v4] t)).alloc (.cells #[u0, u1, u2, u3, u4] u)) wr) :
    wr.cell? ⟨w.heap.size, 4, none⟩ = some v4 ∧ wr.cell? ⟨w.heap.size + 1, 4, none⟩ = some u4 ∧ (∀ b, b < w.heap.size → wr.heap[b]? = w.heap[b]?) := by
  have h1 := hb.block w.heap.size (by omega)
  have h2 := hb.block (w.heap.size + 1) (by omega)
  rw [Below.heap_alloc _ _ _ (by simp), heap_alloc_new] at h1
  have e : (w.alloc (.cells #[v0, v1, v2, v3, v4] t)).heap.size = w.heap.size + 1 := by simp
  rw [← e, heap_alloc_new, e] at h2
  refine ⟨?_, ?_, ?_⟩
  · simp [World.cell?, h1]
  · simp [World.cell?, h2]
  · intro b hlt
    exact (hb.block b (by omega)).trans ((Below.heap_alloc _ _ _ (by simp; omega)).trans (Below.heap_alloc _ _ _ hlt))

set_option maxHeartbeats 400000 in
theorem same_some (R : Nat → Prop) (t : TD) (l : List ByteArray) (a1 a2 : Addr) (nc1 nc2 : Nat) (w : World) (hR : ∀ b, R b → b < w.heap.size) (hn : l.length * 16 ≤ 140737488351232) (hs1 : l ≠ [] → a1.spot = none) (hs2 : l ≠ [] → a2.spot = none)
    (h1 : ∀ (j : Nat) s, l[j]? = some s → w.cell? ⟨a1.block, a1.off + j, none⟩ = some (.string s) ∧ R a1.block)
    (h2 : ∀ (j : Nat) s, l[j]? = some s → w.cell? ⟨a2.block, a2.off + j, none⟩ = some (.string s) ∧ R a2.block) :
    Calls Try.prog 12 #[.agg #[.string t.c, .string t.k, .string t.s, .bool t.r, .slice (some a1) l.length nc1], .agg #[.string t.c, .string t.k, .string t.s, .bool t.r, .slice (some a2) l.length nc2]] w
      fun e w' => e = .returned (.bool true) ∧ Below w.heap.size w w' := by
  have q1 := fun (w : World) (a : Option Addr) (n c : Nat) => Lib.run_eql_slice_nil (P := Try.prog) w 34 9 a n c 0 0 Try.underlying34
  obtain ⟨m, hm⟩ : ∃ m, m = l.length := ⟨_, rfl⟩
  rw [← hm] at hn ⊢
  have HM : Hid (m = l.length) := hm
  clear hm
  go_enter Try.func12, Try.ntmps12
  go_wp2
  go_loopw [5] (fun i wr => ∃ k : Nat, k ≤ m ∧ i = .int .i64 k ∧ Below (w.heap.size + 2) ((w.alloc (.cells #[.string t.c, .string t.k, .string t.s, .bool t.r, .slice (some a1) m nc1] 36)).alloc (.cells #[.string t.c, .string t.k, .string t.s, .bool t.r, .slice (some a2) m nc2] 38)) wr) (fun i _ => m - (intOf i).toNat)
  case atStart => exact ⟨0, Nat.zero_le _, rfl, Below.refl _ _⟩
  case round =>
    obtain ⟨k, hk, rfl, hbel⟩ := hrel
    obtain ⟨b1, b2, bo⟩ := box_two hbel
    by_cases hlt : k < m
    · obtain ⟨s, hs⟩ : ∃ s, l[k]? = some s := ⟨_, List.getElem?_eq_getElem (by rw [← HM.out]; exact hlt)⟩
      obtain ⟨b1', o1, sp1⟩ := a1
      obtain ⟨b2', o2, sp2⟩ := a2
      have hne : l ≠ [] := by intro e; subst e; simp at hs
      have hs1 := hs1 hne
      have hs2 := hs2 hne
      simp only at hs1 hs2
      subst hs1
      subst hs2
      have g1 := (cell_of (bo _ (hR _ (h1 k s hs).2)) (o1 + k)).trans (h1 k s hs).1
      have g2 := (cell_of (bo _ (hR _ (h2 k s hs).2)) (o2 + k)).trans (h2 k s hs).1
      clear hs hne
      go_wp2
      go_quiet (fail)
      go_wp2
      go_roundw
      case rel => exact ⟨k + 1, by omega, by go_num, below_drewN hbel nq⟩
      case measure => simp [intOf]; omega
    · go_wp2
      go_ret
      exact ⟨rfl, (((Below.refl _ w).alloc (Nat.le_refl _) _).alloc (by simp) _).trans (hbel.mono (by omega))⟩

set_option maxHeartbeats 400000 in
theorem same_nil (t : TD) (w : World) :
    Calls Try.prog 12 #[.agg #[.string t.c, .string t.k, .string t.s, .bool t.r, .slice none 0 0], .agg #[.string t.c, .string t.k, .string t.s, .bool t.r, .slice none 0 0]] w
      fun e w' => e = .returned (.bool true) ∧ Below w.heap.size w w' := by
  have q1 := fun (w : World) (a : Option Addr) (n c : Nat) => Lib.run_eql_slice_nil (P := Try.prog) w 34 9 a n c 0 0 Try.underlying34
  go_enter Try.func12, Try.ntmps12
  go_wp2
  refine wp_loop_rounds 1 ?_
  rw [rounds_succ]
  go_wp2
  go_ret
  exact ⟨rfl, (((Below.refl _ w).alloc (Nat.le_refl _) _).alloc (by simp) _)⟩

/-- sameTodo where both read as t -/
theorem same_todo (R : Nat → Prop) (t : TD) (na1 na2 : Option Addr) (nm1 nc1 nm2 nc2 : Nat) (w : World) (hR : ∀ b, R b → b < w.heap.size)
    (h1 : NotesAt R w na1 nm1 nc1 t.n) (h2 : NotesAt R w na2 nm2 nc2 t.n) :
    Calls Try.prog 12 #[.agg #[.string t.c, .string t.k, .string t.s, .bool t.r, .slice na1 nm1 nc1], .agg #[.string t.c, .string t.k, .string t.s, .bool t.r, .slice na2 nm2 nc2]] w
      fun e w' => e = .returned (.bool true) ∧ Below w.heap.size w w' := by
  obtain ⟨c, k, s, r, n⟩ := t
  cases n with
  | none =>
    obtain ⟨rfl, rfl, rfl⟩ := h1
    obtain ⟨rfl, rfl, rfl⟩ := h2
    exact same_nil ⟨c, k, s, r, none⟩ w
  | some l =>
    obtain ⟨rfl, hl, a1, rfl, hs1, g1⟩ := h1
    obtain ⟨rfl, _, a2, rfl, hs2, g2⟩ := h2
    exact same_some R ⟨c, k, s, r, some l⟩ l a1 a2 nc1 nc2 w hR hl hs1 hs2 (fun j s hj => ⟨(g1 j s hj).1, (g1 j s hj).2.2⟩) (fun j s hj => ⟨(g2 j s hj).1, (g2 j s hj).2.2⟩)

set_option maxHeartbeats 400000 in
theorem same_list (R : Nat → Prop) (ts : List TD) (ao1 ao2 : Option Addr) (n cp1 cp2 : Nat) (w : World) (hl : ts.length = n) (hn : n * 80 ≤ 140737488351232) (hR : ∀ b, R b → b < w.heap.size)
    (h1 : ListAt R w ao1 ts) (h2 : ListAt R w ao2 ts) :
    Calls Try.prog 9 #[.slice ao1 n cp1, .slice ao2 n cp2] w fun e w' => e = .returned (.bool true) ∧ Below w.heap.size w w' := by
  have HL : Hid (ts.length = n) := hl
  clear hl
  go_enter Try.func9, Try.ntmps9
  go_wp2
  go_loopw [5] (fun i wr => ∃ k : Nat, k ≤ n ∧ i = .int .i64 k ∧ Below w.heap.size w wr) (fun i _ => n - (intOf i).toNat)
  case atStart => exact ⟨0, Nat.zero_le _, rfl, Below.refl _ _⟩
  case round =>
    obtain ⟨k, hk, rfl, hbel⟩ := hrel
    by_cases hlt : k < n
    · obtain ⟨t, ht⟩ : ∃ t, ts[k]? = some t := ⟨_, List.getElem?_eq_getElem (by rw [HL.out]; exact hlt)⟩
      obtain ⟨b1, o1, na1, nm1, nc1, rfl, t1⟩ := h1 k t ht
      obtain ⟨b2, o2, na2, nm2, nc2, rfl, t2⟩ := h2 k t ht
      have t1 := t1.move (w' := wr) (fun _ h => h) (fun b hb => hbel.block b (hR b hb))
      have t2 := t2.move (w' := wr) (fun _ h => h) (fun b hb => hbel.block b (hR b hb))
      obtain ⟨_, _, _, _, c0, c1, c2, c3, c4, nt⟩ := t1
      obtain ⟨_, _, _, _, d0, d1, d2, d3, d4, nt2⟩ := t2
      clear ht h1 h2
      have hRr : ∀ b, R b → b < wr.heap.size := fun b hb => Nat.lt_of_lt_of_le (hR b hb) hbel.size
      have call : ∀ j : Nat, Calls Try.prog 12 #[.agg #[.string t.c, .string t.k, .string t.s, .bool t.r, .slice na1 nm1 nc1], .agg #[.string t.c, .string t.k, .string t.s, .bool t.r, .slice na2 nm2 nc2]] wr.drew
          fun e w' => e = .returned (.bool true) ∧ Below wr.heap.size wr w' := fun _ =>
        (same_todo R t na1 na2 nm1 nc1 nm2 nc2 wr.drew hRr (nt.move (fun _ h => h) (fun _ _ => rfl)) (nt2.move (fun _ h => h) (fun _ _ => rfl))).mono fun e w' h => ⟨h.1, ((Below.refl _ wr).drew).trans h.2⟩
      go_wp2
      go_region_with (go_at_call 12; refine (call 0).mono ?_; rintro e w1 ⟨rfl, hb1⟩)
      all_goals
        clear call c0 c1 c2 c3 c4 d0 d1 d2 d3 d4
        go_wp2
        go_roundw
        case rel => exact ⟨k + 1, by omega, by go_num, hbel.trans (Below.mono (by assumption) hbel.size)⟩
        case measure => simp [intOf]; omega
    · go_wp2
      go_ret
      exact ⟨rfl, hbel⟩
end Go.Proofs.Qxb6627422a
