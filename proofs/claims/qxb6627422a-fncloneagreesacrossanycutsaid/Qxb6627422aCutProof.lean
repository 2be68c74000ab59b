/-
  Seat b6627422a: 'Rows.FnCloneAgreesAcrossAnyCutSaid', proved.
-/
import Derived.Test.Qxb6627422aRows
import Derived.Test.Qxb6627422aCut
import Derived.Test.Qxb6627422aOpen
namespace Go.Proofs.Qxb6627422a.cut
open Go.ChangeShapes Go.WideShapes Go.ChangeAt Go.RowKit

theorem own : ownKnob Try.prog.godebug = none := by kernel_rfl
theorem laidOut : laidOutB Try.prog = true := by kernel_rfl

set_option maxRecDepth 100000 in
theorem lifted (os : Os) (started : os.Started) (H : Type) (enc : TypeId × Value → H) :
    ReturnsInHanded {} Try.checked os 4 .any (Rows.fnCloneAgreesAcrossAnyCutSpec.pre6 enc Try.prog Try.f4 Rows.fnCloneAgreesAcrossAnyCutRow.domain false) (Rows.fnCloneAgreesAcrossAnyCutSpec.post enc Try.prog Try.f4 false true false false) := by
  refine returnsInHanded_of_change_sized (C := Try.checked) own started (by kernel_rfl) Try.func4
    (ChangeSpec.witness6 (enc := enc) (C := Try.checked) false ⟨#[], #[.slice none 0 0, .int .i64 0], []⟩ 8 (by kernel_rfl) (by kernel_rfl) (by kernel_rfl) (by kernel_rfl)) ?_
  intro W base args ds gs before hval0 hW hcnd hsz0 _
  have hval : ∀ (j : Nat) t v, Try.f4.params[j]? = some t → args[j]? = some v → Value.okWide Try.prog W .any base t v := hval0
  have hsz : (DataW.weightsEach Try.prog (Try.f4.params.toList ++ Rows.fnCloneAgreesAcrossAnyCutSpec.plain.varTypes Try.prog) (ds ++ gs)).all (· ≤ reachBytes) = true := hsz0
  have hW' := hW
  obtain ⟨p, q, hA0, hV, rfl, hfz, hnd⟩ := hW
  have hA : DataW.TrodAll enc Try.prog W 0 (fun _ => true) true Try.f4.params.toList args.toList ds p := hA0
  rw [Try.params4] at hA hval hsz
  obtain ⟨v0, vs0, d0, ds0, p0, q0, hargs, rfl, rfl, h0, r0⟩ := trodAll_cons hA
  obtain ⟨v1, vs1, d1, ds1, p1, q1, rfl, rfl, rfl, h1, r1⟩ := trodAll_cons r0
  obtain ⟨rfl, rfl, rfl⟩ := trodAll_nil r1
  obtain rfl : args = #[v0, v1] := by cases args; simp_all
  obtain ⟨rfl, rfl⟩ := trodVars_none hV
  obtain ⟨a0, len0, cap0, rfl⟩ := okWide_slice Try.underlying22 (hval 0 22 v0 rfl rfl)
  have k0 := h0
  have lt0 : ∀ x ∈ p0, x.block < W.heap.size := by obtain ⟨m, hm⟩ := k0; exact DataW.trod_lt m _ _ _ hm
  have hs : ∀ y ∈ d0.weights Try.prog 22, y ≤ reachBytes := fun y hy => by
    have := List.all_eq_true.1 hsz _ (DataW.weights_mem_each (j := 0) (t := 22) rfl rfl y hy)
    simpa using this
  obtain ⟨ts, hl, hn, hnil, hL⟩ : ∃ ts : List TD, ts.length = len0 ∧ len0 * 80 ≤ 140737488351232 ∧ (a0 = none → len0 = 0 ∧ cap0 = 0) ∧ ListAt (fun b => b < W.heap.size) W a0 ts := by
    obtain ⟨fuel, hf⟩ := h0
    exact open_items (x := (d0, p0)) hf hs
  obtain ⟨a1, rfl, rfl, rfl, w1⟩ := open_int Try.underlying3 (hval 1 3 v1 rfl rfl) h1
  clear hA0 hval0
  refine (cut_any a0 len0 cap0 a1 _ ts W hn hl hnil (fun _ h => h) hL).mono fun e W' ⟨he, bel⟩ => ?_
  subst he
  exact ⟨_, rfl, _, _, _, [], _, [], hW', trodAll_mk1 (shut_bool Try.underlying4 _), (trodAll_mk2 (Below.trod laidOut (by kernel_rfl) (of_decide_eq_true (by kernel_rfl)) k0 bel lt0) (shut_int Try.underlying3 w1)), rfl, bel.frame _, fun h => by cases h⟩

theorem over : Rows.fnCloneAgreesAcrossAnyCutRow.holds Try.pinned (OpenSpec.ofChange Rows.fnCloneAgreesAcrossAnyCutSpec) :=
  OpenClaim.holds_of_wide 4 Try.f4 rfl rfl rfl rfl rfl rfl rfl ⟨rfl, rfl, rfl, rfl, rfl⟩ rfl rfl rfl rfl rfl (by kernel_rfl) Try.func4 (by kernel_rfl)
    (of_decide_eq_true (by kernel_rfl)) (by unfold Func.isWrapper; first | (rw [if_pos (by decide +kernel)]; kernel_rfl) | (rw [if_neg (by decide +kernel)]; exact ⟨rfl, rfl⟩))
    (fun os started H enc _ => lifted os started H enc)

end Go.Proofs.Qxb6627422a.cut

namespace Go.Proofs.Qxb6627422a

/-- THE STATEMENT -/
theorem fnCloneCut_proved : Rows.FnCloneAgreesAcrossAnyCutSaid := cut.over

end Go.Proofs.Qxb6627422a
