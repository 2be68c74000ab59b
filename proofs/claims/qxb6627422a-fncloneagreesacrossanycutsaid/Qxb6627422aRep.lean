/-
  Seat b6627422a: what a list of todos (or of items) in memory reads as. No Go text here.
-/
import Derived.Test.Qxb6627422aSClone
namespace Go.Proofs.Qxb6627422a
open Go.RowKit

/-- one todo, as data: content, kind, status, ratified, notes ('none': nil) -/
structure TD where
  c : ByteArray
  k : ByteArray
  s : ByteArray
  r : Bool
  n : Option (List ByteArray)

/-- the slice value '.slice na nm nc' of strings reads as n; its block satisfies R -/
def NotesAt (R : Nat → Prop) (w : World) (na : Option Addr) (nm nc : Nat) : Option (List ByteArray) → Prop
  | none => na = none ∧ nm = 0 ∧ nc = 0
  | some l => nm = l.length ∧ l.length * 16 ≤ 140737488351232 ∧ ∃ a, na = some a ∧ (l ≠ [] → a.spot = none) ∧ ∀ j s, l[j]? = some s → w.cell? ⟨a.block, a.off + j, none⟩ = some (.string s) ∧ s.size ≤ 140737488351232 ∧ R a.block

structure TodoAt (R : Nat → Prop) (w : World) (b o : Nat) (na : Option Addr) (nm nc : Nat) (t : TD) : Prop where
  blk : R b
  z0 : t.c.size ≤ 140737488351232
  z1 : t.k.size ≤ 140737488351232
  z2 : t.s.size ≤ 140737488351232
  c0 : w.cell? ⟨b, o, none⟩ = some (.string t.c)
  c1 : w.cell? ⟨b, o + 1, none⟩ = some (.string t.k)
  c2 : w.cell? ⟨b, o + 2, none⟩ = some (.string t.s)
  c3 : w.cell? ⟨b, o + 3, none⟩ = some (.bool t.r)
  c4 : w.cell? ⟨b, o + 4, none⟩ = some (.slice na nm nc)
  nt : NotesAt R w na nm nc t.n

/-- the elements behind the address read as ts -/
def ListAt (R : Nat → Prop) (w : World) (ao : Option Addr) (ts : List TD) : Prop :=
  ∀ i t, ts[i]? = some t → ∃ b o na nm nc, ao = some ⟨b, o, none⟩ ∧ TodoAt R w b (o + i * 5) na nm nc t

theorem cell_of {w w' : World} {b : Nat} (h : w'.heap[b]? = w.heap[b]?) (x : Nat) : w'.cell? ⟨b, x, none⟩ = w.cell? ⟨b, x, none⟩ := World.cell?_of_block (w := w) h
theorem frozen_of {w w' : World} {b : Nat} (h : w'.heap[b]? = w.heap[b]?) (x : Nat) : w'.frozen? ⟨b, x, none⟩ = w.frozen? ⟨b, x, none⟩ := World.frozen?_of_block (w := w) h
theorem lt_of_cell {w : World} {b x : Nat} {v : Value} (h : w.cell? ⟨b, x, none⟩ = some v) : b < w.heap.size := cell_lt h

theorem NotesAt.move {R R' : Nat → Prop} {w w' : World} {na : Option Addr} {nm nc : Nat} {n : Option (List ByteArray)} (h : NotesAt R w na nm nc n)
    (hR : ∀ b, R b → R' b) (hw : ∀ b, R b → w'.heap[b]? = w.heap[b]?) : NotesAt R' w' na nm nc n := by
  cases n with
  | none => exact h
  | some l =>
    obtain ⟨h1, h2, a, rfl, hs, h3⟩ := h
    exact ⟨h1, h2, a, rfl, hs, fun j s hj => ⟨(cell_of (hw _ (h3 j s hj).2.2) _).trans (h3 j s hj).1, (h3 j s hj).2.1, hR _ (h3 j s hj).2.2⟩⟩

theorem TodoAt.move {R R' : Nat → Prop} {w w' : World} {b o : Nat} {na : Option Addr} {nm nc : Nat} {t : TD} (h : TodoAt R w b o na nm nc t)
    (hR : ∀ b, R b → R' b) (hw : ∀ b, R b → w'.heap[b]? = w.heap[b]?) : TodoAt R' w' b o na nm nc t :=
  have hc : ∀ x, w'.cell? ⟨b, x, none⟩ = w.cell? ⟨b, x, none⟩ := cell_of (hw b h.blk)
  ⟨hR _ h.blk, h.z0, h.z1, h.z2, (hc _).trans h.c0, (hc _).trans h.c1, (hc _).trans h.c2, (hc _).trans h.c3, (hc _).trans h.c4, h.nt.move hR hw⟩

theorem ListAt.move {R R' : Nat → Prop} {w w' : World} {ao : Option Addr} {ts : List TD} (h : ListAt R w ao ts)
    (hR : ∀ b, R b → R' b) (hw : ∀ b, R b → w'.heap[b]? = w.heap[b]?) : ListAt R' w' ao ts := by
  intro i t hi
  obtain ⟨b, o, na, nm, nc, h1, h2⟩ := h i t hi
  exact ⟨b, o, na, nm, nc, h1, h2.move hR hw⟩

theorem NotesAt.get {R : Nat → Prop} {w : World} {na : Option Addr} {nm nc j : Nat} {n : Option (List ByteArray)} (h : NotesAt R w na nm nc n) (hj : j < nm) :
    ∃ b o s, na = some ⟨b, o, none⟩ ∧ w.cell? ⟨b, o + j, none⟩ = some (.string s) ∧ s.size ≤ 140737488351232 ∧ R b := by
  cases n with
  | none => obtain ⟨_, rfl, _⟩ := h; omega
  | some l =>
    obtain ⟨rfl, _, ⟨b, o, sp⟩, rfl, hs, h3⟩ := h
    have hs := hs (by intro e; subst e; simp at hj)
    simp only at hs
    subst hs
    obtain ⟨q1, q2, q3⟩ := h3 j _ (List.getElem?_eq_getElem hj)
    exact ⟨b, o, _, rfl, q1, q2, q3⟩

theorem NotesAt.len {R : Nat → Prop} {w : World} {na : Option Addr} {nm nc : Nat} {n : Option (List ByteArray)} (h : NotesAt R w na nm nc n) : nm ≤ 140737488351232 := by
  cases n with
  | none => obtain ⟨_, rfl, _⟩ := h; omega
  | some l => obtain ⟨rfl, h2, _⟩ := h; omega

/-- notes of the call's own: in a block from lo on that is not g, nothing frozen -/
def OwnNotes (lo g : Nat) (w : World) (na : Option Addr) (nm nc : Nat) : Option (List ByteArray) → Prop
  | none => na = none ∧ nm = 0 ∧ nc = 0
  | some l => nm = l.length ∧ l.length * 16 ≤ 140737488351232 ∧ ∃ h, na = some ⟨h, 0, none⟩ ∧ lo ≤ h ∧ h ≠ g ∧ ∀ j s, l[j]? = some s → w.cell? ⟨h, j, none⟩ = some (.string s) ∧ s.size ≤ 140737488351232 ∧ w.frozen? ⟨h, j, none⟩ = false

theorem OwnNotes.at {lo g : Nat} {w : World} {na : Option Addr} {nm nc : Nat} {n : Option (List ByteArray)} (h : OwnNotes lo g w na nm nc n) : NotesAt (fun b => lo ≤ b ∧ b < w.heap.size) w na nm nc n := by
  cases n with
  | none => exact h
  | some l =>
    obtain ⟨h1, h2, b, rfl, h3, _, h4⟩ := h
    exact ⟨h1, h2, _, rfl, fun _ => rfl, fun j s hj => ⟨by rw [Nat.zero_add]; exact (h4 j s hj).1, (h4 j s hj).2.1, h3, lt_of_cell (h4 j s hj).1⟩⟩

theorem OwnNotes.move {lo g : Nat} {w w' : World} {na : Option Addr} {nm nc : Nat} {n : Option (List ByteArray)} (h : OwnNotes lo g w na nm nc n)
    (hw : ∀ b, lo ≤ b → b < w.heap.size → b ≠ g → w'.heap[b]? = w.heap[b]?) : OwnNotes lo g w' na nm nc n := by
  cases n with
  | none => exact h
  | some l =>
    obtain ⟨h1, h2, b, rfl, h3, hg, h4⟩ := h
    refine ⟨h1, h2, b, rfl, h3, hg, fun j s hj => ?_⟩
    have hb := hw b h3 (cell_lt (h4 j s hj).1) hg
    exact ⟨(cell_of hb j).trans (h4 j s hj).1, (h4 j s hj).2.1, (frozen_of hb j).trans (h4 j s hj).2.2⟩

theorem OwnNotes.lower {lo lo' g : Nat} {w : World} {na : Option Addr} {nm nc : Nat} {n : Option (List ByteArray)} (h : OwnNotes lo g w na nm nc n) (hl : lo' ≤ lo) : OwnNotes lo' g w na nm nc n := by
  cases n with
  | none => exact h
  | some l =>
    obtain ⟨h1, h2, b, rfl, h3, r⟩ := h
    exact ⟨h1, h2, b, rfl, Nat.le_trans hl h3, r⟩

/-- one todo of the call's own -/
structure OwnTodo (lo : Nat) (w : World) (g o : Nat) (na : Option Addr) (nm nc : Nat) (t : TD) : Prop where
  z0 : t.c.size ≤ 140737488351232
  z1 : t.k.size ≤ 140737488351232
  z2 : t.s.size ≤ 140737488351232
  c0 : w.cell? ⟨g, o, none⟩ = some (.string t.c)
  c1 : w.cell? ⟨g, o + 1, none⟩ = some (.string t.k)
  c2 : w.cell? ⟨g, o + 2, none⟩ = some (.string t.s)
  c3 : w.cell? ⟨g, o + 3, none⟩ = some (.bool t.r)
  c4 : w.cell? ⟨g, o + 4, none⟩ = some (.slice na nm nc)
  nt : OwnNotes lo g w na nm nc t.n

/-- the first k of ts stand in the block g of the call's own -/
structure OwnList (lo : Nat) (w : World) (g k : Nat) (ts : List TD) : Prop where
  base : lo ≤ g
  blk : g < w.heap.size
  room : ∀ x, x < ts.length * 5 → (w.cell? ⟨g, x, none⟩).isSome = true
  free : ∀ x, w.frozen? ⟨g, x, none⟩ = false
  el : ∀ i t, i < k → ts[i]? = some t → ∃ na nm nc, OwnTodo lo w g (i * 5) na nm nc t

theorem OwnList.at {lo : Nat} {w : World} {g : Nat} {ts : List TD} (h : OwnList lo w g ts.length ts) : ListAt (fun b => lo ≤ b ∧ b < w.heap.size) w (some ⟨g, 0, none⟩) ts := by
  intro i t hi
  obtain ⟨hlt, _⟩ := List.getElem?_eq_some_iff.1 hi
  obtain ⟨na, nm, nc, q⟩ := h.el i t hlt hi
  exact ⟨g, 0, na, nm, nc, rfl, by rw [Nat.zero_add]; exact ⟨⟨h.base, cell_lt q.c0⟩, q.z0, q.z1, q.z2, q.c0, q.c1, q.c2, q.c3, q.c4, q.nt.at⟩⟩

/-- the block that the row lies in is as it was, and so are those that its notes lie in -/
theorem OwnList.move {lo : Nat} {w w' : World} {g k : Nat} {ts : List TD} (h : OwnList lo w g k ts)
    (hw : ∀ b, lo ≤ b → b < w.heap.size → w'.heap[b]? = w.heap[b]?) : OwnList lo w' g k ts := by
  have hb := hw g h.base h.blk
  have hlt : g < w'.heap.size := by
    rw [Array.getElem?_eq_getElem h.blk] at hb
    exact (Array.getElem?_eq_some_iff.1 hb).1
  have hc : ∀ x, w'.cell? ⟨g, x, none⟩ = w.cell? ⟨g, x, none⟩ := cell_of hb
  refine ⟨h.base, hlt, fun x hx => (congrArg _ (hc x)).trans (h.room x hx), fun x => (frozen_of hb x).trans (h.free x), fun i t hi ht => ?_⟩
  obtain ⟨na, nm, nc, q⟩ := h.el i t hi ht
  exact ⟨na, nm, nc, q.z0, q.z1, q.z2, (hc _).trans q.c0, (hc _).trans q.c1, (hc _).trans q.c2, (hc _).trans q.c3, (hc _).trans q.c4, q.nt.move fun b h1 h2 _ => hw b h1 h2⟩

theorem OwnList.drew {lo : Nat} {w : World} {g k : Nat} {ts : List TD} (h : OwnList lo w g k ts) : OwnList lo w.drew g k ts := h.move (fun _ _ _ => rfl)

theorem setCell_off {w : World} {g x y : Nat} {v : Value} (h : x ≠ y) : (w.setCell ⟨g, x, none⟩ v).cell? ⟨g, y, none⟩ = w.cell? ⟨g, y, none⟩ :=
  World.cell?_setCell_other _ _ _ _ (by intro e; apply h; injection e)

theorem setCell_at {w : World} {g x : Nat} {v : Value} (h : (w.cell? ⟨g, x, none⟩).isSome = true) : (w.setCell ⟨g, x, none⟩ v).cell? ⟨g, x, none⟩ = some v :=
  World.cell?_setCell_same' _ _ _ h

theorem setCell_some {w : World} {g x y : Nat} {v : Value} (h : (w.cell? ⟨g, y, none⟩).isSome = true) : ((w.setCell ⟨g, x, none⟩ v).cell? ⟨g, y, none⟩).isSome = true := by
  by_cases e : x = y
  · subst e
    rw [setCell_at h]; rfl
  · rw [setCell_off e]; exact h

/-- the five stores of an element -/
def put5 (w : World) (g o : Nat) (v0 v1 v2 v3 v4 : Value) : World :=
  ((((w.setCell ⟨g, o, none⟩ v0).setCell ⟨g, o + 1, none⟩ v1).setCell ⟨g, o + 2, none⟩ v2).setCell ⟨g, o + 3, none⟩ v3).setCell ⟨g, o + 4, none⟩ v4

theorem put5_heap {w : World} {g o b : Nat} {v0 v1 v2 v3 v4 : Value} (h : b ≠ g) : (put5 w g o v0 v1 v2 v3 v4).heap[b]? = w.heap[b]? := by
  unfold put5
  rw [Below.heap_setCell _ _ _ _ h, Below.heap_setCell _ _ _ _ h, Below.heap_setCell _ _ _ _ h, Below.heap_setCell _ _ _ _ h, Below.heap_setCell _ _ _ _ h]

theorem put5_frozen {w : World} {g o x : Nat} {v0 v1 v2 v3 v4 : Value} : (put5 w g o v0 v1 v2 v3 v4).frozen? ⟨g, x, none⟩ = w.frozen? ⟨g, x, none⟩ := by
  simp [put5]

theorem put5_size {w : World} {g o : Nat} {v0 v1 v2 v3 v4 : Value} : (put5 w g o v0 v1 v2 v3 v4).heap.size = w.heap.size := by
  simp [put5, World.setCell]

theorem put5_some {w : World} {g o y : Nat} {v0 v1 v2 v3 v4 : Value} (h : (w.cell? ⟨g, y, none⟩).isSome = true) : ((put5 w g o v0 v1 v2 v3 v4).cell? ⟨g, y, none⟩).isSome = true :=
  setCell_some (setCell_some (setCell_some (setCell_some (setCell_some h))))

theorem put5_off {w : World} {g o y : Nat} {v0 v1 v2 v3 v4 : Value} (h : y < o ∨ o + 4 < y) : (put5 w g o v0 v1 v2 v3 v4).cell? ⟨g, y, none⟩ = w.cell? ⟨g, y, none⟩ := by
  unfold put5
  rw [setCell_off (by omega), setCell_off (by omega), setCell_off (by omega), setCell_off (by omega), setCell_off (by omega)]

theorem put5_at {w : World} {g o : Nat} {v0 v1 v2 v3 v4 : Value} (h : ∀ x, x < 5 → (w.cell? ⟨g, o + x, none⟩).isSome = true) :
    (put5 w g o v0 v1 v2 v3 v4).cell? ⟨g, o, none⟩ = some v0 ∧ (put5 w g o v0 v1 v2 v3 v4).cell? ⟨g, o + 1, none⟩ = some v1 ∧ (put5 w g o v0 v1 v2 v3 v4).cell? ⟨g, o + 2, none⟩ = some v2 ∧
    (put5 w g o v0 v1 v2 v3 v4).cell? ⟨g, o + 3, none⟩ = some v3 ∧ (put5 w g o v0 v1 v2 v3 v4).cell? ⟨g, o + 4, none⟩ = some v4 := by
  have h0 := h 0 (by omega)
  have h1 := h 1 (by omega)
  have h2 := h 2 (by omega)
  have h3 := h 3 (by omega)
  have h4 := h 4 (by omega)
  rw [Nat.add_zero] at h0
  unfold put5
  refine ⟨?_, ?_, ?_, ?_, ?_⟩
  · rw [setCell_off (by omega), setCell_off (by omega), setCell_off (by omega), setCell_off (by omega), setCell_at h0]
  · rw [setCell_off (by omega), setCell_off (by omega), setCell_off (by omega), setCell_at (setCell_some h1)]
  · rw [setCell_off (by omega), setCell_off (by omega), setCell_at (setCell_some (setCell_some h2))]
  · rw [setCell_off (by omega), setCell_at (setCell_some (setCell_some (setCell_some h3)))]
  · rw [setCell_at (setCell_some (setCell_some (setCell_some (setCell_some h4))))]

/-- five cells of the row g are written: the next element stands -/
theorem OwnList.put {lo : Nat} {w : World} {g k : Nat} {ts : List TD} (h : OwnList lo w g k ts) {t : TD} (ht : ts[k]? = some t) {na : Option Addr} {nm nc : Nat}
    (z0 : t.c.size ≤ 140737488351232) (z1 : t.k.size ≤ 140737488351232) (z2 : t.s.size ≤ 140737488351232)
    (hnt : OwnNotes lo g w na nm nc t.n) :
    OwnList lo (put5 w g (k * 5) (.string t.c) (.string t.k) (.string t.s) (.bool t.r) (.slice na nm nc)) g (k + 1) ts := by
  obtain ⟨hlt, _⟩ := List.getElem?_eq_some_iff.1 ht
  refine ⟨h.base, by rw [put5_size]; exact h.blk, fun x hx => put5_some (h.room x hx), fun x => put5_frozen.trans (h.free x), fun i u hi hu => ?_⟩
  by_cases e : i = k
  · subst e
    rw [ht] at hu
    cases hu
    obtain ⟨q0, q1, q2, q3, q4⟩ := put5_at (w := w) (g := g) (o := i * 5) (v0 := .string t.c) (v1 := .string t.k) (v2 := .string t.s) (v3 := .bool t.r) (v4 := .slice na nm nc) (fun x hx => h.room _ (by omega))
    exact ⟨na, nm, nc, z0, z1, z2, q0, q1, q2, q3, q4, hnt.move fun b _ _ hb => put5_heap hb⟩
  · obtain ⟨na', nm', nc', q⟩ := h.el i u (by omega) hu
    exact ⟨na', nm', nc', q.z0, q.z1, q.z2, (put5_off (by omega)).trans q.c0, (put5_off (by omega)).trans q.c1, (put5_off (by omega)).trans q.c2, (put5_off (by omega)).trans q.c3, (put5_off (by omega)).trans q.c4,
      q.nt.move fun b _ _ hb => put5_heap hb⟩

end Go.Proofs.Qxb6627422a
