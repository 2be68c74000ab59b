/-
  Seat b6627422a: the callees' contracts in the form that the two laws take them.
-/
import Derived.Test.Qxb6627422aMake
import Derived.Test.Qxb6627422aSame
import Derived.Test.Qxb6627422aSpoil
import Derived.Test.Qxb6627422aBytes
namespace Go.Proofs.Qxb6627422a
open Go.RowKit

/-- a list that spoil may write: nil, or in blocks lo .. hi-1 -/
def SpV (lo hi : Nat) (w : World) (la : Option Addr) (n lc : Nat) : Prop :=
  (la = none ∧ n = 0 ∧ lc = 0) ∨ ∃ g, la = some ⟨g, 0, none⟩ ∧ Sp lo hi w g n 140737488351232

theorem SpV.move {lo hi : Nat} {w w' : World} {la : Option Addr} {n lc : Nat} (h : SpV lo hi w la n lc) (hw : ∀ b, lo ≤ b → b < hi → w'.heap[b]? = w.heap[b]?) : SpV lo hi w' la n lc := by
  rcases h with h | ⟨g, h1, h2⟩
  · exact Or.inl h
  · exact Or.inr ⟨g, h1, h2.move hw⟩

theorem spoil_v (lo hi : Nat) (la : Option Addr) (n lc : Nat) (w : World) (hn : n * 80 ≤ 140737488351232) (h : SpV lo hi w la n lc) :
    Calls Try.prog 10 #[.slice la n lc] w fun e w' => e = .returned (.tuple #[]) ∧ Off lo hi w w' := by
  rcases h with ⟨rfl, rfl, rfl⟩ | ⟨g, rfl, h2⟩
  · refine (spoil_nil w).mono ?_
    rintro e w' ⟨rfl, rfl⟩
    exact ⟨rfl, Off.refl _ _ _⟩
  · exact spoil_any lo hi g n lc w hn h2

/-- blocks lo .. hi-1 -/
def Rng (lo hi b : Nat) : Prop := lo ≤ b ∧ b < hi

theorem clone_v (ao : Option Addr) (n c : Nat) (R : Nat → Prop) (ts : List TD) (w : World) (hn : n * 80 ≤ 140737488351232) (hl : ts.length = n) (hR : ∀ b, R b → b < w.heap.size) (hL : ListAt R w ao ts) :
    Calls Try.prog 8 #[.slice ao n c] w fun e w' => ∃ g cap, e = .returned (.slice (some ⟨g, 0, none⟩) n cap) ∧ ListAt (Rng w.heap.size w'.heap.size) w' (some ⟨g, 0, none⟩) ts ∧
      SpV w.heap.size w'.heap.size w' (some ⟨g, 0, none⟩) n cap ∧ Below w.heap.size w w' := by
  refine (clone_any ao n c R ts w hn hl hR hL).mono ?_
  rintro e w' ⟨g, cap, rfl, ho, hb⟩
  subst hl
  exact ⟨g, cap, rfl, ho.at, Or.inr ⟨g, rfl, ho.sp⟩, hb⟩

theorem toTodos_v (ao : Option Addr) (n c : Nat) (R : Nat → Prop) (ts : List TD) (w : World) (hn : n * 80 ≤ 140737488351232) (hl : ts.length = n) (hnil : ao = none → n = 0 ∧ c = 0) (hR : ∀ b, R b → b < w.heap.size) (hL : ListAt R w ao ts) :
    Calls Try.prog 7 #[.slice ao n c] w fun e w' => ∃ la, e = .returned (.slice la n n) ∧ ListAt (Rng w.heap.size w'.heap.size) w' la ts ∧
      SpV w.heap.size w'.heap.size w' la n n ∧ Below w.heap.size w w' := by
  cases ao with
  | none =>
    obtain ⟨rfl, rfl⟩ := hnil rfl
    refine (toTodos_nil w).mono ?_
    rintro e w' ⟨rfl, rfl⟩
    obtain rfl : ts = [] := List.length_eq_zero_iff.1 hl
    exact ⟨none, rfl, fun i t hi => (by simp at hi), Or.inl ⟨rfl, rfl, rfl⟩, Below.refl _ _⟩
  | some a =>
    refine (toTodos_any a n c R ts w hn hl hR hL).mono ?_
    rintro e w' ⟨g, rfl, ho, hb⟩
    subst hl
    exact ⟨_, rfl, ho.at, Or.inr ⟨g, rfl, ho.sp⟩, hb⟩

end Go.Proofs.Qxb6627422a
