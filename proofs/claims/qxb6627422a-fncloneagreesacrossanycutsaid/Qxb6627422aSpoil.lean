/-
  Seat b6627422a: spoil (function 10) by its contract: it writes into the list's own blocks alone.
-/
import Derived.Test.Qxb6627422aRep
namespace Go.Proofs.Qxb6627422a
open Go.RowKit

/-- the cell holds a string of at most B bytes -/
def IsStr (w : World) (b x B : Nat) : Prop := ∃ s, w.cell? ⟨b, x, none⟩ = some (.string s) ∧ s.size ≤ B

theorem IsStr.mono {w : World} {b x B B' : Nat} (h : IsStr w b x B) (hB : B ≤ B') : IsStr w b x B' := by
  obtain ⟨s, h1, h2⟩ := h
  exact ⟨s, h1, by omega⟩

theorem setCell_far {w : World} {g h x y : Nat} {v : Value} (hne : g ≠ h) : (w.setCell ⟨g, x, none⟩ v).cell? ⟨h, y, none⟩ = w.cell? ⟨h, y, none⟩ :=
  World.cell?_setCell_other _ _ _ _ (by intro e; apply hne; injection e)

theorem IsStr.set {w : World} {b x B g y : Nat} {s : ByteArray} (h : IsStr w b x B) (hs : s.size ≤ B) : IsStr (w.setCell ⟨g, y, none⟩ (.string s)) b x B := by
  obtain ⟨u, h1, h2⟩ := h
  by_cases e : g = b
  · subst e
    by_cases e : y = x
    · subst e
      exact ⟨s, setCell_at (by rw [h1]; rfl), hs⟩
    · exact ⟨u, by rw [setCell_off e]; exact h1, h2⟩
  · exact ⟨u, by rw [setCell_far e]; exact h1, h2⟩

theorem IsStr.other {w : World} {b x B g y : Nat} {v : Value} (h : IsStr w b x B) (hne : g ≠ b ∨ y ≠ x) : IsStr (w.setCell ⟨g, y, none⟩ v) b x B := by
  obtain ⟨u, h1, h2⟩ := h
  refine ⟨u, ?_, h2⟩
  by_cases e : g = b
  · subst e
    rw [setCell_off (by omega)]
    exact h1
  · rw [setCell_far e]
    exact h1

/-- the notes that may be written -/
def SpNotes (lo hi g : Nat) (w : World) (na : Option Addr) (nm B : Nat) : Prop :=
  nm ≤ 140737488351232 ∧ ∀ j, j < nm → ∃ h, na = some ⟨h, 0, none⟩ ∧ lo ≤ h ∧ h < hi ∧ h ≠ g ∧ IsStr w h j B ∧ w.frozen? ⟨h, j, none⟩ = false

theorem SpNotes.mono {lo hi g : Nat} {w : World} {na : Option Addr} {nm B B' : Nat} (h : SpNotes lo hi g w na nm B) (hB : B ≤ B') : SpNotes lo hi g w na nm B' := by
  refine ⟨h.1, fun j hj => ?_⟩
  obtain ⟨b, h1, h2, h3, h4, h5, h6⟩ := h.2 j hj
  exact ⟨b, h1, h2, h3, h4, h5.mono hB, h6⟩

theorem SpNotes.set {lo hi g : Nat} {w : World} {na : Option Addr} {nm B b x : Nat} {s : ByteArray} (h : SpNotes lo hi g w na nm B) (hs : s.size ≤ B) : SpNotes lo hi g (w.setCell ⟨b, x, none⟩ (.string s)) na nm B := by
  refine ⟨h.1, fun j hj => ?_⟩
  obtain ⟨b, h1, h2, h3, h4, h5, h6⟩ := h.2 j hj
  exact ⟨b, h1, h2, h3, h4, h5.set hs, by simpa using h6⟩

theorem SpNotes.setG {lo hi g : Nat} {w : World} {na : Option Addr} {nm B x : Nat} {v : Value} (h : SpNotes lo hi g w na nm B) : SpNotes lo hi g (w.setCell ⟨g, x, none⟩ v) na nm B := by
  refine ⟨h.1, fun j hj => ?_⟩
  obtain ⟨b, h1, h2, h3, h4, h5, h6⟩ := h.2 j hj
  exact ⟨b, h1, h2, h3, h4, h5.other (Or.inl (fun e => h4 e.symm)), by simpa using h6⟩

/-- one element that may be written -/
structure SpEl (lo hi : Nat) (w : World) (g o B : Nat) (na : Option Addr) (nm nc : Nat) : Prop where
  s0 : IsStr w g o B
  s1 : IsStr w g (o + 1) B
  s2 : IsStr w g (o + 2) B
  s3 : ∃ r, w.cell? ⟨g, o + 3, none⟩ = some (.bool r)
  s4 : w.cell? ⟨g, o + 4, none⟩ = some (.slice na nm nc)
  nt : SpNotes lo hi g w na nm B

theorem SpEl.mono {lo hi : Nat} {w : World} {g o B B' : Nat} {na : Option Addr} {nm nc : Nat} (h : SpEl lo hi w g o B na nm nc) (hB : B ≤ B') : SpEl lo hi w g o B' na nm nc :=
  ⟨h.s0.mono hB, h.s1.mono hB, h.s2.mono hB, h.s3, h.s4, h.nt.mono hB⟩

/-- a string is written into a string's cell of the row, or of the notes -/
theorem SpEl.set {lo hi : Nat} {w : World} {g o B b x : Nat} {na : Option Addr} {nm nc : Nat} {s : ByteArray} (h : SpEl lo hi w g o B na nm nc) (hs : s.size ≤ B) (hne : b ≠ g ∨ (x ≠ o + 3 ∧ x ≠ o + 4)) :
    SpEl lo hi (w.setCell ⟨b, x, none⟩ (.string s)) g o B na nm nc := by
  have keep : ∀ y, (b ≠ g ∨ x ≠ y) → (w.setCell ⟨b, x, none⟩ (.string s)).cell? ⟨g, y, none⟩ = w.cell? ⟨g, y, none⟩ := by
    intro y hy
    by_cases e : b = g
    · subst e; exact setCell_off (by omega)
    · exact setCell_far e
  obtain ⟨r, hr⟩ := h.s3
  exact ⟨h.s0.set hs, h.s1.set hs, h.s2.set hs, ⟨r, (keep _ (by omega)).trans hr⟩, (keep _ (by omega)).trans h.s4, h.nt.set hs⟩

/-- a bool is written into the row -/
theorem SpEl.setBool {lo hi : Nat} {w : World} {g o B x : Nat} {na : Option Addr} {nm nc : Nat} {r : Bool} (h : SpEl lo hi w g o B na nm nc) (hne : x = o + 3 ∨ x < o ∨ o + 4 < x) :
    SpEl lo hi (w.setCell ⟨g, x, none⟩ (.bool r)) g o B na nm nc := by
  refine ⟨h.s0.other (Or.inr (by omega)), h.s1.other (Or.inr (by omega)), h.s2.other (Or.inr (by omega)), ?_, ?_, h.nt.setG⟩
  · obtain ⟨q, hq⟩ := h.s3
    by_cases e : x = o + 3
    · subst e
      exact ⟨r, setCell_at (by rw [hq]; rfl)⟩
    · exact ⟨q, by rw [setCell_off e]; exact hq⟩
  · rw [setCell_off (by omega)]
    exact h.s4

structure Sp (lo hi : Nat) (w : World) (g n B : Nat) : Prop where
  gl : lo ≤ g
  gh : g < hi
  free : ∀ x, w.frozen? ⟨g, x, none⟩ = false
  el : ∀ i, i < n → ∃ na nm nc, SpEl lo hi w g (i * 5) B na nm nc

theorem Sp.mono {lo hi : Nat} {w : World} {g n B B' : Nat} (h : Sp lo hi w g n B) (hB : B ≤ B') : Sp lo hi w g n B' :=
  ⟨h.gl, h.gh, h.free, fun i hi => by
    obtain ⟨na, nm, nc, q⟩ := h.el i hi
    exact ⟨na, nm, nc, q.mono hB⟩⟩

theorem Sp.set {lo hi : Nat} {w : World} {g n B b x : Nat} {s : ByteArray} (h : Sp lo hi w g n B) (hs : s.size ≤ B) (hne : b ≠ g ∨ (x % 5 ≠ 3 ∧ x % 5 ≠ 4)) : Sp lo hi (w.setCell ⟨b, x, none⟩ (.string s)) g n B :=
  ⟨h.gl, h.gh, fun x => by simpa using h.free x, fun i hi => by
    obtain ⟨na, nm, nc, q⟩ := h.el i hi
    exact ⟨na, nm, nc, q.set hs (by omega)⟩⟩

theorem Sp.setBool {lo hi : Nat} {w : World} {g n B x : Nat} {r : Bool} (h : Sp lo hi w g n B) (hne : x % 5 = 3) : Sp lo hi (w.setCell ⟨g, x, none⟩ (.bool r)) g n B :=
  ⟨h.gl, h.gh, fun x => by simpa using h.free x, fun i hi => by
    obtain ⟨na, nm, nc, q⟩ := h.el i hi
    exact ⟨na, nm, nc, q.setBool (by omega)⟩⟩

/-- outside the blocks lo .. hi-1 the world is as it was -/
structure Off (lo hi : Nat) (w w' : World) : Prop where
  os : w'.os = w.os
  tape : w'.tape = w.tape
  output : w'.output = w.output
  size : w'.heap.size = w.heap.size
  block : ∀ k, (k < lo ∨ hi ≤ k) → w'.heap[k]? = w.heap[k]?

theorem Off.refl (lo hi : Nat) (w : World) : Off lo hi w w := ⟨rfl, rfl, rfl, rfl, fun _ _ => rfl⟩
theorem Off.setCell {lo hi : Nat} {a w : World} (h : Off lo hi a w) {b x : Nat} (h1 : lo ≤ b) (h2 : b < hi) (v : Value) : Off lo hi a (w.setCell ⟨b, x, none⟩ v) :=
  ⟨h.os, h.tape, h.output, by simpa [World.setCell] using h.size, fun k hk => (Below.heap_setCell _ _ _ _ (by simp only; omega)).trans (h.block k hk)⟩
theorem Off.drew {lo hi : Nat} {a w : World} (h : Off lo hi a w) : Off lo hi a w.drew := ⟨h.os, h.tape, h.output, h.size, h.block⟩
theorem Off.below {lo hi : Nat} {a w : World} (h : Off lo hi a w) : Below lo a w := ⟨h.os, h.tape, h.output, by rw [h.size]; exact Nat.le_refl _, fun k hk => h.block k (Or.inl hk)⟩

theorem IsStr.move {w w' : World} {b x B : Nat} (h : IsStr w b x B) (hb : w'.heap[b]? = w.heap[b]?) : IsStr w' b x B := by
  obtain ⟨s, h1, h2⟩ := h
  exact ⟨s, (cell_of hb x).trans h1, h2⟩

theorem Sp.move {lo hi : Nat} {w w' : World} {g n B : Nat} (h : Sp lo hi w g n B) (hw : ∀ b, lo ≤ b → b < hi → w'.heap[b]? = w.heap[b]?) : Sp lo hi w' g n B := by
  have hg := hw g h.gl h.gh
  refine ⟨h.gl, h.gh, fun x => (frozen_of hg x).trans (h.free x), fun i hi' => ?_⟩
  obtain ⟨na, nm, nc, q⟩ := h.el i hi'
  refine ⟨na, nm, nc, q.s0.move hg, q.s1.move hg, q.s2.move hg, ?_, (cell_of hg _).trans q.s4, q.nt.1, fun j hj => ?_⟩
  · obtain ⟨r, hr⟩ := q.s3
    exact ⟨r, (cell_of hg _).trans hr⟩
  · obtain ⟨b, h1, h2, h3, h4, h5, h6⟩ := q.nt.2 j hj
    have hb := hw b h2 h3
    exact ⟨b, h1, h2, h3, h4, h5.move hb, (frozen_of hb j).trans h6⟩

theorem Sp.drew {lo hi : Nat} {w : World} {g n B : Nat} (h : Sp lo hi w g n B) : Sp lo hi w.drew g n B := h.move fun _ _ _ => rfl

theorem OwnList.sp {lo : Nat} {w : World} {g : Nat} {ts : List TD} (h : OwnList lo w g ts.length ts) : Sp lo w.heap.size w g ts.length 140737488351232 := by
  refine ⟨h.base, h.blk, h.free, fun i hi => ?_⟩
  obtain ⟨na, nm, nc, q⟩ := h.el i _ hi (List.getElem?_eq_getElem hi)
  refine ⟨na, nm, nc, ⟨_, q.c0, q.z0⟩, ⟨_, q.c1, q.z1⟩, ⟨_, q.c2, q.z2⟩, ⟨_, q.c3⟩, q.c4, ?_⟩
  have hn := q.nt
  cases e : ts[i].n with
  | none =>
    rw [e] at hn
    obtain ⟨_, rfl, _⟩ := hn
    exact ⟨Nat.zero_le _, fun j hj => by omega⟩
  | some l =>
    rw [e] at hn
    obtain ⟨rfl, h2, b, rfl, h3, h4, h5⟩ := hn
    refine ⟨by omega, fun j hj => ?_⟩
    obtain ⟨q1, q2, q3⟩ := h5 j _ (List.getElem?_eq_getElem hj)
    exact ⟨b, rfl, h3, lt_of_cell q1, h4, ⟨_, q1, q2⟩, q3⟩

/-- what holds while the notes of element k are written -/
structure Inn (lo hi g n k : Nat) (na : Option Addr) (nm nc jj : Nat) (w wi : World) : Prop where
  sp : Sp lo hi wi g n (140737488351232 + k + 1)
  c4 : wi.cell? ⟨g, k * 5 + 4, none⟩ = some (.slice na nm nc)
  nt : ∀ j, jj ≤ j → j < nm → ∃ h, na = some ⟨h, 0, none⟩ ∧ lo ≤ h ∧ h < hi ∧ h ≠ g ∧ IsStr wi h j (140737488351232 + k) ∧ wi.frozen? ⟨h, j, none⟩ = false
  off : Off lo hi w wi

theorem hash_size (s : ByteArray) : (s ++ ({ data := #[35] } : ByteArray)).size = s.size + 1 := by
  rw [ByteArray.size_append]
  rfl

theorem inn_start {lo hi g n k : Nat} {na : Option Addr} {nm nc : Nat} {w wo : World} {s0 s1 s2 : ByteArray} {r : Bool} (hsp : Sp lo hi wo g n (140737488351232 + k)) (hoff : Off lo hi w wo)
    (z0 : s0.size ≤ 140737488351232 + k) (z1 : s1.size ≤ 140737488351232 + k) (z2 : s2.size ≤ 140737488351232 + k) (c4 : wo.cell? ⟨g, k * 5 + 4, none⟩ = some (.slice na nm nc))
    (nt : ∀ j, j < nm → ∃ h, na = some ⟨h, 0, none⟩ ∧ lo ≤ h ∧ h < hi ∧ h ≠ g ∧ IsStr wo h j (140737488351232 + k) ∧ wo.frozen? ⟨h, j, none⟩ = false) :
    Inn lo hi g n k na nm nc 0 w ((((wo.setCell ⟨g, k * 5, none⟩ (.string (s0 ++ { data := #[35] }))).setCell ⟨g, k * 5 + 1, none⟩ (.string (s1 ++ { data := #[35] }))).setCell ⟨g, k * 5 + 2, none⟩ (.string (s2 ++ { data := #[35] }))).setCell ⟨g, k * 5 + 3, none⟩ (.bool r)) := by
  refine ⟨?_, ?_, ?_, ?_⟩
  · exact ((((hsp.mono (by omega)).set (by rw [hash_size]; omega) (Or.inr (by omega))).set (by rw [hash_size]; omega) (Or.inr (by omega))).set (by rw [hash_size]; omega) (Or.inr (by omega))).setBool (by omega)
  · rw [setCell_off (by omega), setCell_off (by omega), setCell_off (by omega), setCell_off (by omega)]
    exact c4
  · intro j _ hj
    obtain ⟨h, h1, h2, h3, h4, h5, h6⟩ := nt j hj
    have hgh : g ≠ h := fun e => h4 e.symm
    exact ⟨h, h1, h2, h3, h4, (((h5.other (Or.inl hgh)).other (Or.inl hgh)).other (Or.inl hgh)).other (Or.inl hgh), by simpa using h6⟩
  · exact (((hoff.setCell hsp.gl hsp.gh _).setCell hsp.gl hsp.gh _).setCell hsp.gl hsp.gh _).setCell hsp.gl hsp.gh _

theorem Inn.step {lo hi g n k h : Nat} {nm nc jj : Nat} {w wi : World} {s : ByteArray} (q : Inn lo hi g n k (some ⟨h, 0, none⟩) nm nc jj w wi) (h1 : lo ≤ h) (h2 : h < hi) (h3 : h ≠ g) (hs : s.size ≤ 140737488351232 + k) :
    Inn lo hi g n k (some ⟨h, 0, none⟩) nm nc (jj + 1) w (wi.setCell ⟨h, jj, none⟩ (.string (s ++ { data := #[35] }))).drew := by
  refine ⟨(q.sp.set (by rw [hash_size]; omega) (Or.inl h3)).drew, ?_, ?_, (q.off.setCell h1 h2 _).drew⟩
  · show (wi.setCell ⟨h, jj, none⟩ (.string (s ++ { data := #[35] }))).cell? _ = _
    rw [setCell_far h3]
    exact q.c4
  · intro j hj hj2
    obtain ⟨b, e, g1, g2, g3, g4, g5⟩ := q.nt j (by omega) hj2
    cases e
    exact ⟨h, rfl, g1, g2, g3, (g4.other (Or.inr (by omega))).move rfl, by simpa using g5⟩

set_option maxHeartbeats 1000000 in
theorem spoil_any (lo hi g n c : Nat) (w : World) (hn : n * 80 ≤ 140737488351232) (hS : Sp lo hi w g n 140737488351232) :
    Calls Try.prog 10 #[.slice (some ⟨g, 0, none⟩) n c] w fun e w' => e = .returned (.tuple #[]) ∧ Off lo hi w w' := by
  go_enter Try.func10, Try.ntmps10
  go_wp2
  go_loopw [2] (fun i wr => ∃ k : Nat, k ≤ n ∧ i = .int .i64 k ∧ Sp lo hi wr g n (140737488351232 + k) ∧ Off lo hi w wr) (fun i _ => n - (intOf i).toNat)
  case atStart => exact ⟨0, Nat.zero_le _, rfl, hS, Off.refl _ _ _⟩
  case round =>
    rename World => wo
    obtain ⟨k, hk, rfl, hsp, hoff⟩ := hrel
    by_cases hlt : k < n
    · obtain ⟨na, nm, nc, q⟩ := hsp.el k hlt
      obtain ⟨⟨s0, c0, z0⟩, ⟨s1, c1, z1⟩, ⟨s2, c2, z2⟩, ⟨r, c3⟩, c4, hnm, nt⟩ := q
      have fz := hsp.free
      go_wp2
      go_loopw [3] (fun j wi => ∃ jj : Nat, jj ≤ nm ∧ j = .int .i64 jj ∧ Inn lo hi g n k na nm nc jj w wi) (fun j _ => nm - (intOf j).toNat)
      case atStart => exact ⟨0, Nat.zero_le _, rfl, inn_start hsp hoff z0 z1 z2 c4 nt⟩
      case round =>
        obtain ⟨jj, hj, rfl, hin⟩ := hrel
        clear c0 c1 c2 c3 c4 nt fz
        have d4 := hin.c4
        by_cases hlt2 : jj < nm
        · obtain ⟨h, rfl, g1, g2, g3, ⟨s, g4, z⟩, g5⟩ := hin.nt jj (Nat.le_refl _) hlt2
          go_wp2
          go_region
          all_goals (go_wp2)
          all_goals
            go_roundw
            case rel => exact ⟨jj + 1, by omega, by go_num, hin.step g1 g2 g3 z⟩
            case measure => simp [intOf]; omega
        · go_wp2
          go_roundw
          case rel => exact ⟨k + 1, by omega, by go_num, hin.sp, hin.off⟩
          case measure => simp [intOf]; omega
    · go_wp2
      go_end0
      exact ⟨rfl, hoff⟩

set_option maxHeartbeats 400000 in
theorem spoil_nil (w : World) : Calls Try.prog 10 #[.slice none 0 0] w fun e w' => e = .returned (.tuple #[]) ∧ w' = w := by
  go_enter Try.func10, Try.ntmps10
  go_wp2
  refine wp_loop_rounds 1 ?_
  rw [rounds_succ]
  go_wp2
  go_end0
  exact ⟨rfl, rfl⟩

end Go.Proofs.Qxb6627422a
