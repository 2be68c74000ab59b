/-
  Seat b6627422a: toTodos (function 7) by its contract.
-/
import Derived.Test.Qxb6627422aClone
namespace Go.Proofs.Qxb6627422a
open Go.RowKit

theorem make34 (n : Nat) (hn : n * 16 ≤ 140737488351232) :
    ∃ cur : Array Value, cur.size = n ∧ ∀ w, (Instr.makeSlice 34 (.int .i64 (n : Int)) (.int .i64 (n : Int))).run Try.prog w = .ok (.slice (some ⟨w.heap.size, 0, none⟩) n n) (w.alloc (.cells cur 9)) := by
  obtain ⟨i, hi, hz0, hz1, hz2⟩ := info_parts Try.info9
  refine ⟨madeCells (Value.string ByteArray.empty).cells n, size_madeCells _ _, fun w => ?_⟩
  have := run_make (P := Try.prog) w 34 9 i _ Try.underlying34 hi hz0 .i64 .i64 n n (by omega) (Int.le_refl _) (by rw [hz2]; omega) (by omega)
  simpa [hz1] using this

/-- the notes that are being filled: the first k of l stand in block h -/
structure Fill (w : World) (h k : Nat) (l : List ByteArray) : Prop where
  room : ∀ x, x < l.length → (w.cell? ⟨h, x, none⟩).isSome = true
  free : ∀ x, w.frozen? ⟨h, x, none⟩ = false
  el : ∀ j s, j < k → l[j]? = some s → w.cell? ⟨h, j, none⟩ = some (.string s)

theorem fill_start' {w' : World} {h : Nat} (cur : Array Value) (l : List ByteArray) (hc : cur.size = l.length) (hh : w'.heap[h]? = some (.cells cur 9)) : Fill w' h 0 l := by
  refine ⟨fun x hx => ?_, fun x => ?_, fun i t hi => by omega⟩
  · have hx' : x < cur.size := by omega
    simp [World.cell?, hh, hx']
  · simp [World.frozen?, hh]

theorem fill_start (w : World) (cur : Array Value) (l : List ByteArray) (hc : cur.size = l.length) : Fill (w.alloc (.cells cur 9)) w.heap.size 0 l := fill_start' cur l hc (heap_alloc_new _ _)

theorem Fill.put {w : World} {h k : Nat} {l : List ByteArray} (f : Fill w h k l) {s : ByteArray} (hs : l[k]? = some s) : Fill (w.setCell ⟨h, k, none⟩ (.string s)) h (k + 1) l := by
  refine ⟨fun x hx => setCell_some (f.room x hx), fun x => by simpa using f.free x, fun j u hj hu => ?_⟩
  by_cases e : j = k
  · subst e
    rw [hs] at hu
    cases hu
    obtain ⟨hlt, _⟩ := List.getElem?_eq_some_iff.1 hs
    exact setCell_at (f.room _ hlt)
  · rw [setCell_off (fun h => e h.symm)]
    exact f.el j u (by omega) hu

theorem put5_below {B : Nat} {a w : World} {g o : Nat} {v0 v1 v2 v3 v4 : Value} (h : Below B a w) (hg : B ≤ g) : Below B a (put5 w g o v0 v1 v2 v3 v4) :=
  ((((h.setCell hg _).setCell hg _).setCell hg _).setCell hg _).setCell hg _

/-- what a round leaves: the element is written, then a draw -/
theorem round_end {w wr : World} {k : Nat} {ts : List TD} {t : TD} {na : Option Addr} {nm nc : Nat} (ht : ts[k]? = some t) (hown : OwnList w.heap.size wr w.heap.size k ts) (hbel : Below w.heap.size w wr)
    (z0 : t.c.size ≤ 140737488351232) (z1 : t.k.size ≤ 140737488351232) (z2 : t.s.size ≤ 140737488351232) (hnt : OwnNotes w.heap.size w.heap.size wr na nm nc t.n) :
    OwnList w.heap.size (put5 wr w.heap.size (k * 5) (.string t.c) (.string t.k) (.string t.s) (.bool t.r) (.slice na nm nc)).drew w.heap.size (k + 1) ts ∧
    Below w.heap.size w (put5 wr w.heap.size (k * 5) (.string t.c) (.string t.k) (.string t.s) (.bool t.r) (.slice na nm nc)).drew := by
  have h := hown.put ht z0 z1 z2 hnt
  have hb := put5_below (o := k * 5) (v0 := .string t.c) (v1 := .string t.k) (v2 := .string t.s) (v3 := .bool t.r) (v4 := .slice na nm nc) hbel (Nat.le_refl _)
  exact ⟨h.drew, hb.drew⟩

set_option maxHeartbeats 400000 in
theorem toTodos_nil (w : World) :
    Calls Try.prog 7 #[.slice none 0 0] w fun e w' => e = .returned (.slice none 0 0) ∧ w' = w := by
  have q1 := fun (w : World) (a : Option Addr) (n c : Nat) => Lib.run_eql_slice_nil (P := Try.prog) w 22 38 a n c 0 0 Try.underlying22
  go_enter Try.func7, Try.ntmps7
  go_wp2
  go_ret
  exact ⟨rfl, rfl⟩

set_option maxHeartbeats 1000000 in
theorem toTodos_any (a : Addr) (n c : Nat) (R : Nat → Prop) (ts : List TD) (w : World) (hn : n * 80 ≤ 140737488351232) (hl : ts.length = n) (hR : ∀ b, R b → b < w.heap.size) (hL : ListAt R w (some a) ts) :
    Calls Try.prog 7 #[.slice (some a) n c] w fun e w' => ∃ g, e = .returned (.slice (some ⟨g, 0, none⟩) n n) ∧ OwnList w.heap.size w' g n ts ∧ Below w.heap.size w w' := by
  have q1 := fun (w : World) (a : Option Addr) (n c : Nat) => Lib.run_eql_slice_nil (P := Try.prog) w 22 38 a n c 0 0 Try.underlying22
  have q2 := fun (w : World) (a : Option Addr) (n c : Nat) => run_neq_slice_nil_any (P := Try.prog) w 34 9 a n c 0 0 Try.underlying34
  obtain ⟨cur, hcur, hmk⟩ := make36 n hn
  have HL : Hid (ts.length = n) := hl
  have HC : Hid (cur.size = n * 5) := hcur
  clear hl hcur
  go_enter Try.func7, Try.ntmps7
  go_wp2
  go_loopw [4] (fun i wr => ∃ k : Nat, k ≤ n ∧ i = .int .i64 k ∧ OwnList w.heap.size wr w.heap.size k ts ∧ Below w.heap.size w wr) (fun i _ => n - (intOf i).toNat)
  case atStart => exact ⟨0, Nat.zero_le _, rfl, own_start w cur ts (by rw [HC.out, HL.out]), (Below.refl _ _).alloc (Nat.le_refl _) _⟩
  case round =>
    rename World => wo
    obtain ⟨k, hk, rfl, hown, hbel⟩ := hrel
    by_cases hlt : k < n
    · obtain ⟨t, ht⟩ : ∃ t, ts[k]? = some t := ⟨_, List.getElem?_eq_getElem (by rw [HL.out]; exact hlt)⟩
      obtain ⟨b', o', na, nm, nc, ea, hT⟩ := hL k t ht
      cases ea
      have hT := hT.move (w' := wo) (fun _ h => h) (fun b hb => hbel.block b (hR b hb))
      have hne : w.heap.size < wo.heap.size := by
        have := hown.room (k * 5) (by rw [HL.out]; omega)
        obtain ⟨v, hv⟩ := Option.isSome_iff_exists.1 this
        exact lt_of_cell hv
      obtain ⟨hRb, z0, z1, z2, c0, c1, c2, c3, c4, nt⟩ := hT
      obtain ⟨y0, g0⟩ := Option.isSome_iff_exists.1 (hown.room (k * 5) (by rw [HL.out]; omega))
      obtain ⟨y1, g1⟩ := Option.isSome_iff_exists.1 (hown.room (k * 5 + 1) (by rw [HL.out]; omega))
      obtain ⟨y2, g2⟩ := Option.isSome_iff_exists.1 (hown.room (k * 5 + 2) (by rw [HL.out]; omega))
      obtain ⟨y3, g3⟩ := Option.isSome_iff_exists.1 (hown.room (k * 5 + 3) (by rw [HL.out]; omega))
      obtain ⟨y4, g4⟩ := Option.isSome_iff_exists.1 (hown.room (k * 5 + 4) (by rw [HL.out]; omega))
      have fz := hown.free
      have HT : Hid (ts[k]? = some t) := ht
      clear ht hL
      have hRr : ∀ b, R b → b < wo.heap.size := fun b hb => Nat.lt_of_lt_of_le (hR b hb) hbel.size
      obtain ⟨tc, tk, tst, tr, tn⟩ := t
      simp only at z0 z1 z2 c0 c1 c2 c3 c4 nt
      cases tn with
      | none =>
        obtain ⟨rfl, rfl, rfl⟩ := nt
        go_wp2
        go_region
        all_goals (go_wp2)
        all_goals
          go_roundw
          case rel =>
            have r := round_end HT.out hown hbel z0 z1 z2 (na := none) (nm := 0) (nc := 0) ⟨rfl, rfl, rfl⟩
            exact ⟨k + 1, by omega, by go_num, r.1, r.2⟩
          case measure => simp [intOf]; omega
      | some l =>
        obtain ⟨hnm, hl16, a2, rfl, hs2, nt⟩ := nt
        rw [← hnm] at hl16
        have HN : Hid (nm = l.length) := hnm
        clear hnm
        obtain ⟨cur2, hcur2, hmk2⟩ := make34 nm hl16
        have HC2 : Hid (cur2.size = nm) := hcur2
        clear hcur2
        go_wp2
        go_loopw [6] (fun j wi => ∃ jj : Nat, jj ≤ nm ∧ j = .int .i64 jj ∧ Fill wi wo.heap.size jj l ∧ Below wo.heap.size wo wi) (fun j _ => nm - (intOf j).toNat)
        case atStart => exact ⟨0, Nat.zero_le _, rfl, fill_start wo cur2 l (by rw [HC2.out, HN.out]), (Below.refl _ _).alloc (Nat.le_refl _) _⟩
        case round =>
          obtain ⟨jj, hj, rfl, hfill, hb2⟩ := hrel
          have d0 := (cell_of (hb2.block _ (hRr _ hRb)) (o' + k * 5)).trans c0
          have d1 := (cell_of (hb2.block _ (hRr _ hRb)) (o' + k * 5 + 1)).trans c1
          have d2 := (cell_of (hb2.block _ (hRr _ hRb)) (o' + k * 5 + 2)).trans c2
          have d3 := (cell_of (hb2.block _ (hRr _ hRb)) (o' + k * 5 + 3)).trans c3
          have d4 := (cell_of (hb2.block _ (hRr _ hRb)) (o' + k * 5 + 4)).trans c4
          by_cases hlt2 : jj < nm
          · obtain ⟨s, hs⟩ : ∃ s, l[jj]? = some s := ⟨_, List.getElem?_eq_getElem (by rw [← HN.out]; exact hlt2)⟩
            obtain ⟨b2, o2, sp2⟩ := a2
            have hs2 := hs2 (by intro e; subst e; simp at hs)
            simp only at hs2
            subst hs2
            have e0 := (cell_of (hb2.block _ (hRr _ (nt jj s hs).2.2)) (o2 + jj)).trans (nt jj s hs).1
            obtain ⟨y, ey⟩ := Option.isSome_iff_exists.1 (hfill.room jj (by rw [← HN.out]; exact hlt2))
            have ef := hfill.free
            have HS : Hid (l[jj]? = some s) := hs
            clear hs
            go_wp2
            go_roundw
            case rel => exact ⟨jj + 1, by omega, by go_num, hfill.put HS.out, hb2.setCell (by simp) _⟩
            case measure => simp [intOf]; omega
          · obtain rfl : jj = nm := by omega
            have e0 := (cell_of (hb2.block _ hne) (k * 5)).trans g0
            have e1 := (cell_of (hb2.block _ hne) (k * 5 + 1)).trans g1
            have e2 := (cell_of (hb2.block _ hne) (k * 5 + 2)).trans g2
            have e3 := (cell_of (hb2.block _ hne) (k * 5 + 3)).trans g3
            have e4 := (cell_of (hb2.block _ hne) (k * 5 + 4)).trans g4
            have ef : ∀ x, wr.frozen? ⟨w.heap.size, x, none⟩ = false := fun x => (frozen_of (hb2.block _ hne) x).trans (fz x)
            clear c0 c1 c2 c3 c4 g0 g1 g2 g3 g4 fz
            go_wp2
            go_region
            all_goals (go_wp2)
            all_goals
              go_roundw
              case rel =>
                have hon : OwnNotes w.heap.size w.heap.size wr (some ⟨wo.heap.size, 0, none⟩) jj jj (some l) :=
                  ⟨HN.out, by rw [← HN.out]; exact hl16, wo.heap.size, rfl, by omega, by omega, fun j s hjs => ⟨hfill.el j s (by
                    obtain ⟨hlt3, _⟩ := List.getElem?_eq_some_iff.1 hjs
                    rw [HN.out]
                    exact hlt3) hjs, (nt j s hjs).2.1, hfill.free j⟩⟩
                have r := round_end HT.out (hown.move (fun b _ hb => hb2.block b hb)) (hbel.trans (hb2.mono hbel.size)) z0 z1 z2 hon
                exact ⟨k + 1, by omega, by go_num, r.1, r.2⟩
              case measure => simp [intOf]; omega
    · obtain rfl : k = n := by omega
      go_wp2
      go_ret
      exact ⟨_, rfl, hown, hbel⟩

end Go.Proofs.Qxb6627422a
