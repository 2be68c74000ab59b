/-
  Seat b6627523a: the argument '[]float64', opened.
-/
import Derived.Test.Qxb6627523aW6
import Derived.ProofKit
import Derived.ChangeOld
import Derived.Deep.Slices
namespace Go.Proofs.Qxb6627523a
open Go.ChangeShapes Go.WideShapes Go.ChangeAt Go.RowKit Go.Deep

theorem Try.cells24 : Try.prog.cellsOf 24 = 1 := by kernel_rfl

section
variable {H : Type} {enc : TypeId × Value → H} {W : World}

theorem trod_float {fuel : Nat} {cs : List Value} {x : DataW H × List MemPlace} {base : Nat} {spare : Nat → Bool} {held : Bool} (h : DataW.trod enc Try.prog W base spare held fuel 24 cs = some x) :
    ∃ n, cs = [.float .f64 n] ∧ n < 18446744073709551616 := by
  cases fuel with
  | zero => simp [DataW.trod] at h
  | succ m =>
    match cs with
    | [] => simp [DataW.trod, Try.underlying24] at h
    | _ :: _ :: _ => simp [DataW.trod, Try.underlying24] at h
    | [v] =>
      cases v <;> simp [DataW.trod, Try.underlying24] at h
      rename_i k b
      obtain ⟨⟨rfl, hw⟩, _⟩ := h
      simp [Lit.wf] at hw
      exact ⟨b, rfl, hw⟩

theorem open_vals {fuel : Nat} {a0 : Option Addr} {len cap : Nat} {x : DataW H × List MemPlace} (h : DataW.trod enc Try.prog W 0 (fun _ => true) true fuel 22 [.slice a0 len cap] = some x) :
    ∃ zs : List Nat, zs.length = len ∧ len ≤ 9223372036854775807 ∧ (∀ z ∈ zs, z < 18446744073709551616) ∧ ValsAt W a0 zs := by
  rcases open_slice1 Try.underlying22 Try.cells24 h with ⟨hcs, _⟩ | ⟨a, len', cap', m, n, Vf, D, Pl, hcs, _, hl, hcap, hmm, rfl, hel⟩
  · simp at hcs
    obtain ⟨rfl, rfl, rfl⟩ := hcs
    exact ⟨[], rfl, by omega, fun z hz => (by cases hz), fun i z hi => (by simp at hi)⟩
  · simp at hcs
    obtain ⟨rfl, rfl, rfl⟩ := hcs
    simp only [if_true] at hmm
    subst hmm
    have each : ∀ i, i < len → ∃ z : Nat, W.cell? (a.add i) = some (.float .f64 z) ∧ z < 18446744073709551616 := by
      intro i hi
      obtain ⟨h1, h2⟩ := hel i (by omega)
      obtain ⟨z, hz, hlt⟩ := trod_float h2
      simp at hz
      rw [hz] at h1
      exact ⟨z, h1, hlt⟩
    obtain ⟨Z, hZ⟩ := choose_lt each
    refine ⟨(List.range len).map Z, by simp, by unfold maxLen at hcap; omega, ?_, ?_⟩
    · intro z hz
      obtain ⟨i, hi, rfl⟩ := List.mem_map.1 hz
      exact (hZ i (by simpa using hi)).2
    · intro i z hi
      obtain ⟨hlt, hit⟩ := List.getElem?_eq_some_iff.1 hi
      simp at hlt hit
      subst hit
      have h0 := (hZ 0 (by omega)).1
      have hsp : a.spot = none := by
        have := World.cell?_spot h0
        simpa [Addr.add] using this
      have hc := (hZ i hlt).1
      obtain ⟨b, o, sp⟩ := a
      simp only at hsp
      subst hsp
      rw [Addr.add_lit] at hc
      exact ⟨b, o, rfl, hc⟩
end
end Go.Proofs.Qxb6627523a
