/-
  Seat b6627523a: 'Rows.FnStatsOfNegatedValuesMirrorsAndAvgKeepsSignSaid', proved.
-/
import Derived.Test.Qxb6627523aRows
import Derived.Test.Qxb6627523aW8
import Derived.Test.Qxb6627523aOpen
namespace Go.Proofs.Qxb6627523a.mirror
open Go.ChangeShapes Go.WideShapes Go.ChangeAt Go.RowKit

set_option maxHeartbeats 400000 in
theorem bytes11_no (f t r : Int) (ao : Option Addr) (n c : Nat) (hn : 1048576 < n) (w : World) :
    Calls Try.prog 11 #[.int .i64 f, .int .i64 t, .int .i64 r, .slice ao n c] w fun e w' => e = .returned (.bool false) ∧ w' = w := by
  go_enter Try.func11, Try.ntmps11
  go_wp2
  go_ret
  exact ⟨rfl, rfl⟩

set_option maxHeartbeats 400000 in
theorem bytes11_yes (f t r : Int) (ao : Option Addr) (n c : Nat) (hn : n ≤ 1048576) (w : World) :
    Calls Try.prog 11 #[.int .i64 f, .int .i64 t, .int .i64 r, .slice ao n c] w fun e w' => e = .returned (.bool true) ∧ w' = w := by
  go_enter Try.func11, Try.ntmps11
  go_wp2
  go_ret
  exact ⟨rfl, rfl⟩

set_option maxRecDepth 100000 in
set_option maxHeartbeats 400000 in
theorem mirror_out (f t r : Int) (ao : Option Addr) (n c : Nat) (h : 65536 < n) (w : World) :
    Calls Try.prog 4 #[.int .i64 f, .int .i64 t, .int .i64 r, .slice ao n c] w fun e w' => e = .returned (.bool true) ∧ Below w.heap.size w w' := by
  by_cases h1 : 1048576 < n
  · go_enter Try.func4, Try.ntmps4
    go_wp2_with fail
    refine (bytes11_no f t r ao n c h1 _).mono ?_
    rintro e w' ⟨rfl, rfl⟩
    go_wp2
    go_ret
    exact ⟨rfl, Below.refl _ _⟩
  · go_enter Try.func4, Try.ntmps4
    go_wp2_with fail
    refine (bytes11_yes f t r ao n c (by omega) _).mono ?_
    rintro e w' ⟨rfl, rfl⟩
    go_wp2
    go_ret
    exact ⟨rfl, Below.refl _ _⟩

theorem mirror_any (f t r : Int) (ao : Option Addr) (n c : Nat) (zs : List Nat) (hl : zs.length = n) (hz : ∀ z ∈ zs, z < 18446744073709551616) (w : World) (hv : ValsAt w ao zs) :
    Calls Try.prog 4 #[.int .i64 f, .int .i64 t, .int .i64 r, .slice ao n c] w fun e w' => e = .returned (.bool true) ∧ Below w.heap.size w w' := by
  by_cases h : 65536 < n
  · exact mirror_out f t r ao n c h w
  · exact mirror_walk f t r ao n c zs hl (by omega) hz w hv

theorem own : ownKnob Try.prog.godebug = none := by kernel_rfl
theorem laidOut : laidOutB Try.prog = true := by kernel_rfl

theorem all4 {H : Type} {enc : TypeId × Value → H} {P : Program} {w : World} {base : Nat} {spare : Nat → Bool} {held : Bool} {t0 t1 t2 t3 : TypeId} {v0 v1 v2 v3 : Value} {d0 d1 d2 d3 : DataW H} {p0 p1 p2 p3 : List MemPlace}
    (h0 : DataW.Trod enc P w base spare held t0 v0 d0 p0) (h1 : DataW.Trod enc P w base spare held t1 v1 d1 p1) (h2 : DataW.Trod enc P w base spare held t2 v2 d2 p2) (h3 : DataW.Trod enc P w base spare held t3 v3 d3 p3) :
    DataW.TrodAll enc P w base spare held [t0, t1, t2, t3] [v0, v1, v2, v3] [d0, d1, d2, d3] (p0 ++ (p1 ++ (p2 ++ p3))) :=
  ⟨p0, _, h0, trodAll_mk3 h1 h2 h3, rfl⟩

set_option maxRecDepth 100000 in
theorem lifted (os : Os) (started : os.Started) (H : Type) (enc : TypeId × Value → H) :
    ReturnsInHanded {} Try.checked os 4 .any (Rows.fnStatsOfNegatedValuesMirrorsAndAvgKeepsSignSpec.pre6 enc Try.prog Try.f4 Rows.fnStatsOfNegatedValuesMirrorsAndAvgKeepsSignRow.domain false) (Rows.fnStatsOfNegatedValuesMirrorsAndAvgKeepsSignSpec.post enc Try.prog Try.f4 false true false false) := by
  refine returnsInHanded_of_change (C := Try.checked) own started (by kernel_rfl) Try.func4
    (ChangeSpec.witness6 (enc := enc) (C := Try.checked) false ⟨#[], #[.int .i64 0, .int .i64 0, .int .i64 0, .slice none 0 0], []⟩ 8 (by kernel_rfl) (by kernel_rfl) (by kernel_rfl) (by kernel_rfl)) ?_
  intro W base args ds gs before hval0 hW hcnd _
  have hval : ∀ (j : Nat) t v, Try.f4.params[j]? = some t → args[j]? = some v → Value.okWide Try.prog W .any base t v := hval0
  have hW' := hW
  obtain ⟨p, q, hA0, hV, rfl, hfz, hnd⟩ := hW
  have hA : DataW.TrodAll enc Try.prog W 0 (fun _ => true) true Try.f4.params.toList args.toList ds p := hA0
  rw [Try.params4] at hA hval
  obtain ⟨v0, vs0, d0, ds0, p0, q0, hargs, rfl, rfl, h0, r0⟩ := trodAll_cons hA
  obtain ⟨v1, vs1, d1, ds1, p1, q1, rfl, rfl, rfl, h1, r1⟩ := trodAll_cons r0
  obtain ⟨v2, vs2, d2, ds2, p2, q2, rfl, rfl, rfl, h2, r2⟩ := trodAll_cons r1
  obtain ⟨v3, vs3, d3, ds3, p3, q3, rfl, rfl, rfl, h3, r3⟩ := trodAll_cons r2
  obtain ⟨rfl, rfl, rfl⟩ := trodAll_nil r3
  obtain rfl : args = #[v0, v1, v2, v3] := by cases args; simp_all
  obtain ⟨rfl, rfl⟩ := trodVars_none hV
  obtain ⟨a0, rfl, rfl, rfl, w0⟩ := open_int Try.underlying2 (hval 0 2 v0 rfl rfl) h0
  obtain ⟨a1, rfl, rfl, rfl, w1⟩ := open_int Try.underlying2 (hval 1 2 v1 rfl rfl) h1
  obtain ⟨a2, rfl, rfl, rfl, w2⟩ := open_int Try.underlying2 (hval 2 2 v2 rfl rfl) h2
  obtain ⟨a3, len3, cap3, rfl⟩ := okWide_slice Try.underlying22 (hval 3 22 v3 rfl rfl)
  have k3 := h3
  have lt3 : ∀ x ∈ p3, x.block < W.heap.size := by obtain ⟨m, hm⟩ := k3; exact DataW.trod_lt m _ _ _ hm
  obtain ⟨zs, hl, _, hz, hv⟩ : ∃ zs : List Nat, zs.length = len3 ∧ len3 ≤ 9223372036854775807 ∧ (∀ z ∈ zs, z < 18446744073709551616) ∧ ValsAt W a3 zs := by
    obtain ⟨fuel, hf⟩ := h3
    exact open_vals hf
  clear hA0 hval0
  refine (mirror_any a0 a1 a2 a3 len3 cap3 zs hl hz W hv).mono fun e W' ⟨he, bel⟩ => ?_
  subst he
  exact ⟨_, rfl, _, _, _, [], _, [], hW', trodAll_mk1 (shut_bool Try.underlying4 _),
    all4 (shut_int Try.underlying2 w0) (shut_int Try.underlying2 w1) (shut_int Try.underlying2 w2) (Below.trod laidOut (by kernel_rfl) (of_decide_eq_true (by kernel_rfl)) k3 bel lt3), rfl, bel.frame _, fun h => by cases h⟩

theorem over : Rows.fnStatsOfNegatedValuesMirrorsAndAvgKeepsSignRow.holds Try.pinned (OpenSpec.ofChange Rows.fnStatsOfNegatedValuesMirrorsAndAvgKeepsSignSpec) :=
  OpenClaim.holds_of_wide 4 Try.f4 rfl rfl rfl rfl rfl rfl rfl ⟨rfl, rfl, rfl, rfl, rfl⟩ rfl rfl rfl rfl rfl (by kernel_rfl) Try.func4 (by kernel_rfl)
    (of_decide_eq_true (by kernel_rfl)) (by unfold Func.isWrapper; first | (rw [if_pos (by decide +kernel)]; kernel_rfl) | (rw [if_neg (by decide +kernel)]; exact ⟨rfl, rfl⟩))
    (fun os started H enc _ => lifted os started H enc)

end Go.Proofs.Qxb6627523a.mirror

namespace Go.Proofs.Qxb6627523a

/-- THE STATEMENT -/
theorem fnStatsMirror_proved : Rows.FnStatsOfNegatedValuesMirrorsAndAvgKeepsSignSaid := mirror.over

end Go.Proofs.Qxb6627523a
