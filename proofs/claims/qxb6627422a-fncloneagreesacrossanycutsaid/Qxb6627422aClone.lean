import Derived.Test.Qxb6627422aRep
namespace Go.Proofs.Qxb6627422a
open Go.RowKit

theorem Try.info36 : (Try.prog.info? 36).map (fun i => (i.size, i.bytes)) = some (5, 80) := by kernel_rfl
theorem Try.zero36 : ((Try.prog.info? 36).bind (fun i => i.zero)).map (fun z => z.cells) = some #[.string ByteArray.empty, .string ByteArray.empty, .string ByteArray.empty, .bool false, .slice none 0 0] := by kernel_rfl

theorem make36 (n : Nat) (hn : n * 80 ≤ 140737488351232) :
    ∃ cur : Array Value, cur.size = n * 5 ∧ ∀ w, (Instr.makeSlice 25 (.int .i64 (n : Int)) (.int .i64 (n : Int))).run Try.prog w = .ok (.slice (some ⟨w.heap.size, 0, none⟩) n n) (w.alloc (.cells cur 36)) := by
  obtain ⟨i, hi, h⟩ := Option.map_eq_some_iff.1 Try.info36
  simp only [Prod.mk.injEq] at h
  obtain ⟨z, hz, _⟩ := Option.map_eq_some_iff.1 Try.zero36
  rw [hi] at hz
  simp only [Option.bind_some] at hz
  refine ⟨madeCells z.cells (n * 5), size_madeCells _ _, fun w => ?_⟩
  have := run_make (P := Try.prog) w 25 36 i z Try.underlying25 hi hz .i64 .i64 n n (by omega) (Int.le_refl _) (by rw [h.2]; omega) (by omega)
  simpa [h.1] using this

/-- slices.Clone, nil or not -/
theorem sclone_any (R : Nat → Prop) (na : Option Addr) (nm nc : Nat) (n : Option (List ByteArray)) (g : Nat) (w : World) (hg : g < w.heap.size) (h : NotesAt R w na nm nc n) :
    Calls Try.prog 13 #[.slice na nm nc] w fun e w' => ∃ na' nc', e = .returned (.slice na' nm nc') ∧ OwnNotes w.heap.size g w' na' nm nc' n ∧ Below w.heap.size w w' := by
  cases n with
  | none =>
    obtain ⟨rfl, rfl, rfl⟩ := h
    refine (sclone_nil w).mono ?_
    rintro e w' ⟨rfl, rfl⟩
    exact ⟨none, 0, rfl, ⟨rfl, rfl, rfl⟩, Below.refl _ _⟩
  | some l =>
    obtain ⟨rfl, h2, a, rfl, hs, h3⟩ := h
    have hcell : ∀ j u, (l.map Value.string)[j]? = some u → w.cell? (a.add j) = some u := by
      intro j u hj
      rw [List.getElem?_map] at hj
      obtain ⟨s, hs', rfl⟩ := Option.map_eq_some_iff.1 hj
      have := (h3 j s hs').1
      obtain ⟨b, o, sp⟩ := a
      have hs := hs (by intro e; subst e; simp at hs')
      simp only at hs
      subst hs
      rw [Addr.add_lit]
      exact this
    refine (sclone_some a l.length nc (l.map Value.string) w (by simp) hcell ?_ h2).mono ?_
    · intro u hu
      obtain ⟨s, _, rfl⟩ := List.mem_map.1 hu
      rfl
    · rintro e w' ⟨g', cap, rfl, hg', hc, hf, hb⟩
      refine ⟨_, cap, rfl, ⟨rfl, h2, g', rfl, hg', by omega, fun j s hj => ⟨?_, (h3 j s hj).2.1, hf j⟩⟩, hb⟩
      exact hc j _ (by rw [List.getElem?_map, hj]; rfl)

/-- a new row, nothing in it yet -/
theorem own_start' {w' : World} {g : Nat} (cur : Array Value) (ts : List TD) (hc : cur.size = ts.length * 5) (h : w'.heap[g]? = some (.cells cur 36)) : OwnList g w' g 0 ts := by
  refine ⟨Nat.le_refl _, (Array.getElem?_eq_some_iff.1 h).1, fun x hx => ?_, fun x => ?_, fun i t hi => by omega⟩
  · have hx' : x < cur.size := by omega
    simp [World.cell?, h, hx']
  · simp [World.frozen?, h]

theorem own_start (w : World) (cur : Array Value) (ts : List TD) (hc : cur.size = ts.length * 5) : OwnList w.heap.size (w.alloc (.cells cur 36)) w.heap.size 0 ts :=
  own_start' cur ts hc (heap_alloc_new _ _)

/-- a box of five cells, as it reads behind a call that only lays new blocks -/
theorem box5 {wr w1 : World} {v0 v1 v2 v3 v4 : Value} {t : TypeId} (hb : Below (wr.heap.size + 1) (wr.alloc (.cells #[v0, v1, v2, v3, v4] t)) w1) :
    w1.cell? ⟨wr.heap.size, 0, none⟩ = some v0 ∧ w1.cell? ⟨wr.heap.size, 1, none⟩ = some v1 ∧ w1.cell? ⟨wr.heap.size, 2, none⟩ = some v2 ∧ w1.cell? ⟨wr.heap.size, 3, none⟩ = some v3 ∧ w1.cell? ⟨wr.heap.size, 4, none⟩ = some v4 ∧
    (∀ x, w1.frozen? ⟨wr.heap.size, x, none⟩ = false) ∧ (∀ b, b < wr.heap.size → w1.heap[b]? = wr.heap[b]?) ∧ wr.heap.size < w1.heap.size := by
  have h := hb.block wr.heap.size (by omega)
  rw [heap_alloc_new] at h
  refine ⟨?_, ?_, ?_, ?_, ?_, ?_, ?_, ?_⟩
  · simp [World.cell?, h]
  · simp [World.cell?, h]
  · simp [World.cell?, h]
  · simp [World.cell?, h]
  · simp [World.cell?, h]
  · intro x; simp [World.frozen?, h]
  · intro b hlt
    exact (hb.block b (by omega)).trans (Below.heap_alloc _ _ _ hlt)
  · have := hb.size
    simp at this
    omega

set_option maxHeartbeats 400000 in
theorem clone_any (ao : Option Addr) (n c : Nat) (R : Nat → Prop) (ts : List TD) (w : World) (hn : n * 80 ≤ 140737488351232) (hl : ts.length = n) (hR : ∀ b, R b → b < w.heap.size) (hL : ListAt R w ao ts) :
    Calls Try.prog 8 #[.slice ao n c] w fun e w' => ∃ g cap, e = .returned (.slice (some ⟨g, 0, none⟩) n cap) ∧ OwnList w.heap.size w' g n ts ∧ Below w.heap.size w w' := by
  obtain ⟨cur, hcur, hmk⟩ := make36 n hn
  have HL : Hid (ts.length = n) := hl
  have HC : Hid (cur.size = n * 5) := hcur
  clear hl hcur
  go_enter Try.func8, Try.ntmps8
  go_wp2
  go_loopw [11] (fun i wr => ∃ k : Nat, k ≤ n ∧ i = .int .i64 k ∧ OwnList w.heap.size wr w.heap.size k ts ∧ Below w.heap.size w wr) (fun i _ => n - (intOf i).toNat)
  case atStart => exact ⟨0, Nat.zero_le _, rfl, own_start w cur ts (by rw [HC.out, HL.out]), (Below.refl _ _).alloc (Nat.le_refl _) _⟩
  case round =>
    obtain ⟨k, hk, rfl, hown, hbel⟩ := hrel
    by_cases hlt : k < n
    · obtain ⟨t, ht⟩ : ∃ t, ts[k]? = some t := ⟨_, List.getElem?_eq_getElem (by rw [HL.out]; exact hlt)⟩
      obtain ⟨b', o', na, nm, nc, rfl, hT⟩ := hL k t ht
      have hT := hT.move (w' := wr) (fun _ h => h) (fun b hb => hbel.block b (hR b hb))
      have hne : w.heap.size < wr.heap.size := by
        have := hown.room (k * 5) (by rw [HL.out]; omega)
        obtain ⟨v, hv⟩ := Option.isSome_iff_exists.1 this
        exact lt_of_cell hv
      obtain ⟨hRb, z0, z1, z2, c0, c1, c2, c3, c4, nt⟩ := hT
      obtain ⟨y0, g0⟩ := Option.isSome_iff_exists.1 (hown.room (k * 5) (by rw [HL.out]; omega))
      obtain ⟨y1, g1⟩ := Option.isSome_iff_exists.1 (hown.room (k * 5 + 1) (by rw [HL.out]; omega))
      obtain ⟨y2, g2⟩ := Option.isSome_iff_exists.1 (hown.room (k * 5 + 2) (by rw [HL.out]; omega))
      obtain ⟨y3, g3⟩ := Option.isSome_iff_exists.1 (hown.room (k * 5 + 3) (by rw [HL.out]; omega))
      obtain ⟨y4, g4⟩ := Option.isSome_iff_exists.1 (hown.room (k * 5 + 4) (by rw [HL.out]; omega))
      have fz := hown.free
      have HT : Hid (ts[k]? = some t) := ht
      clear ht hL
      have hRr : ∀ b, R b → b < wr.heap.size := fun b hb => Nat.lt_of_lt_of_le (hR b hb) hbel.size
      have nt' : ∀ o, NotesAt R (wr.alloc o) na nm nc t.n := fun o => nt.move (fun _ h => h) fun b hb => Below.heap_alloc _ _ _ (hRr b hb)
      go_wp2_with fail
      refine (sclone_any R na nm nc t.n w.heap.size _ (by simp; omega) (nt' _)).mono ?_
      rintro e w1 ⟨na', nc', rfl, hon, hb1⟩
      simp only [World.size_alloc] at hon hb1
      obtain ⟨k0, k1, k2, k3, k4, kf, kb, ks⟩ := box5 hb1
      have hown1 : OwnList w.heap.size w1 w.heap.size k ts := hown.move (fun b _ hb => kb b hb)
      have e0 := (cell_of (kb _ hne) (k * 5)).trans g0
      have e1 := (cell_of (kb _ hne) (k * 5 + 1)).trans g1
      have e2 := (cell_of (kb _ hne) (k * 5 + 2)).trans g2
      have e3 := (cell_of (kb _ hne) (k * 5 + 3)).trans g3
      have e4 := (cell_of (kb _ hne) (k * 5 + 4)).trans g4
      have ef : ∀ x, w1.frozen? ⟨w.heap.size, x, none⟩ = false := hown1.free
      clear c0 c1 c2 c3 c4 g0 g1 g2 g3 g4 fz
      go_wp2
      go_roundw
      case rel =>
        have hown2 : OwnList w.heap.size (w1.setCell ⟨wr.heap.size, 4, none⟩ (.slice na' nm nc')) w.heap.size k ts :=
          hown.move (fun b _ hb => (Below.heap_setCell _ _ _ _ (by simp; omega)).trans (kb b hb))
        have hon2 : OwnNotes w.heap.size w.heap.size (w1.setCell ⟨wr.heap.size, 4, none⟩ (.slice na' nm nc')) na' nm nc' t.n :=
          (hon.move fun b hb _ _ => Below.heap_setCell _ _ _ _ (by simp; omega)).lower (by omega)
        have hbl : Below w.heap.size w w1 := (hbel.alloc hbel.size _).trans (hb1.mono (by omega))
        refine ⟨k + 1, by omega, by go_num, hown2.put HT.out z0 z1 z2 hon2, ?_⟩
        exact (((((hbl.setCell (by simp; omega) _).setCell (by simp) _).setCell (by simp) _).setCell (by simp) _).setCell (by simp) _).setCell (by simp) _
      case measure => simp [intOf]; omega
    · obtain rfl : k = n := by omega
      go_wp2
      go_ret
      exact ⟨_, _, rfl, hown, hbel⟩
end Go.Proofs.Qxb6627422a
