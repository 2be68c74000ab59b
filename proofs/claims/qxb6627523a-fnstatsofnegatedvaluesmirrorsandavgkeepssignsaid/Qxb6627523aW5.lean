/-
  Seat b6627523a: stats.result (14) where there is a value.
-/
import Derived.Test.Qxb6627523aW4
namespace Go.Proofs.Qxb6627523a
open Go.RowKit Fl
attribute [local go_sem] run_store_float

/-- what the call of mean leaves, told once -/
def Meant (T : Tot) (w : World) (e : Ending) (w' : World) : Prop := ∃ a, e = .returned (.float .f64 a) ∧ RelO (meanO T) a ∧ Below w.heap.size w w'

set_option maxHeartbeats 2000000 in
theorem result_some (g n s t mn mx : Nat) (T : Tot) (HT : Hid (T.n = n ∧ T.n ≠ 0 ∧ T.n ≤ 1048576 ∧ RelO T.s s ∧ RelO T.t t)) (hn0 : ((n : Int) == 0) = false) (w : World) (hg : g < w.heap.size)
    (c0 : w.cell? ⟨g, 0, none⟩ = some (.float .f64 s)) (c1 : w.cell? ⟨g, 1, none⟩ = some (.float .f64 t)) (c2 : w.cell? ⟨g, 2, none⟩ = some (.int .i64 (n : Int)))
    (c3 : w.cell? ⟨g, 3, none⟩ = some (.float .f64 mn)) (c4 : w.cell? ⟨g, 4, none⟩ = some (.float .f64 mx)) :
    Calls Try.prog 14 #[.pointer (some ⟨g, 0, none⟩)] w fun e w' => ∃ a, e = .returned (.agg #[.float .f64 a, .float .f64 mn, .float .f64 mx]) ∧ RelO (meanO T) a ∧ Below w.heap.size w w' := by
  have call : ∀ w1 : World, Calls Try.prog 19 #[.agg #[.float .f64 s, .float .f64 t, .int .i64 (n : Int)]] w1 (Meant T w1) := by
    intro w1
    obtain ⟨rfl, h1, h2, h3, h4⟩ := HT.out
    exact mean_any T s t h1 h2 h3 h4 w1
  go_enter Try.func14, Try.ntmps14
  go_wp2
  go_region_with (go_at_call 19; refine (call _).mono ?_; rintro e w1 ⟨a, rfl, hra, hb1⟩; obtain ⟨r3, r4, r5, r6, r7, r8, r9⟩ := res_facts hg c3 c4 hb1; clear hb1)
  all_goals go_wp2
  all_goals
    refine bodyPost_ret (v := .agg #[.float .f64 a, .float .f64 mn, .float .f64 mx]) (by simp [results, Try.results14, go_sem, r5, r6, r7]) rfl ⟨a, rfl, hra, ?_⟩
    exact ((r9.setCell (Nat.le_refl _) _).setCell (Nat.le_refl _) _).setCell (Nat.le_refl _) _

/-- stats.result -/
theorem result_any (g : Nat) (T : Tot) (hn : T.n ≤ 1048576) (hok : T.Ok) (w : World) (hg : g < w.heap.size) (h : AccAt w g T) :
    Calls Try.prog 14 #[.pointer (some ⟨g, 0, none⟩)] w fun e w' => ∃ a b c, e = .returned (.agg #[.float .f64 a, .float .f64 b, .float .f64 c]) ∧ RelO (meanO T) a ∧ RelO (resMin T) b ∧ RelO (resMax T) c ∧ Below w.heap.size w w' := by
  by_cases hz : T.n = 0
  · exact result_zero g T hz w hg h
  · obtain ⟨⟨s, h1, h2⟩, ⟨t, h3, h4⟩, c2, c3, c4, free⟩ := h
    refine (result_some g T.n s t T.mn T.mx T ⟨rfl, hz, hn, h2, h4⟩ (by simp; omega) w hg h1 h3 c2 c3 c4).mono ?_
    rintro e w' ⟨a, rfl, hra, hb⟩
    refine ⟨a, T.mn, T.mx, rfl, hra, ?_, ?_, hb⟩
    · unfold resMin
      rw [if_neg hz]
      exact ⟨rfl, (hok hz).1⟩
    · unfold resMax
      rw [if_neg hz]
      exact ⟨rfl, (hok hz).2⟩

end Go.Proofs.Qxb6627523a
