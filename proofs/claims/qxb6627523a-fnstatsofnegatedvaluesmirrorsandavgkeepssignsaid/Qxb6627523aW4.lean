/-
  Seat b6627523a: total.mean (19), stats.result (14), Series.Stats (7) by their contracts.
-/
import Derived.Test.Qxb6627523aW3
import Derived.Deep.RegionWith
namespace Go.Proofs.Qxb6627523a
open Go.RowKit Fl
attribute [local go_sem] run_store_float

def arithF (op : BinOp) (x y : Nat) (w : World) : Nat := match floatBits op .f64 x y with | some r => r | none => (Question.nanBits .f64 x y).cut (w.tape w.drawn (.nanBits .f64 x y))
def arithK (op : BinOp) (x y : Nat) : Nat := match floatBits op .f64 x y with | some _ => 0 | none => 1

theorem run_arith_all (op : BinOp) (hop : op = .add ∨ op = .mul ∨ op = .quo) (x y : Nat) (w : World) :
    (binOp op 24 (.float .f64 x) (.float .f64 y)).run Try.prog w = .ok (.float .f64 (arithF op x y w)) (w.drewN (arithK op x y)) := by
  unfold arithF arithK
  cases h : floatBits op .f64 x y with
  | some r => exact run_float_arith w op 24 .f64 x y r h
  | none => rcases hop with rfl | rfl | rfl <;> simp only [floatBits] at h <;> simp [binOp, Op.floatArith, h, Question.forced] <;> rfl

theorem arithF_rel (op : BinOp) (hop : op = .add ∨ op = .mul ∨ op = .quo) (x y : Nat) (w : World) : RelO (floatBits op .f64 x y) (arithF op x y w) := by
  unfold arithF
  cases h : floatBits op .f64 x y with
  | some r => exact ⟨rfl, floatBits_num h (by rcases hop with rfl | rfl | rfl <;> simp)⟩
  | none => exact nan_cut _ _ _

theorem RelO.bind {o : Option Nat} {f : Nat → Option Nat} {b r : Nat} (h : RelO o b) (hf : nan b = true → f b = none) (hr : RelO (f b) r) : RelO (o.bind f) r := by
  cases o with
  | none => rw [hf h.1] at hr; exact hr
  | some s => obtain ⟨rfl, _⟩ := h; exact hr

set_option maxHeartbeats 400000 in
theorem mean_any (T : Tot) (s t : Nat) (hz : T.n ≠ 0) (hn : T.n ≤ 1048576) (hs : RelO T.s s) (ht : RelO T.t t) (w : World) :
    Calls Try.prog 19 #[.agg #[.float .f64 s, .float .f64 t, .int .i64 (T.n : Int)]] w fun e w' => ∃ a, e = .returned (.float .f64 a) ∧ RelO (meanO T) a ∧ Below w.heap.size w w' := by
  obtain ⟨n, S, Tt, mn, mx⟩ := T
  simp only at hz hn hs ht
  have hn0 : ((n : Int) == 0) = false := by simp; omega
  have hm : meanO ⟨n, S, Tt, mn, mx⟩ = S.bind fun s => if rg s = 9218868437227405312 then (Tt.bind fun t => Ieee.double.div t (fl n)).bind fun q => Ieee.double.mul q 4895412794951729152 else Ieee.double.div s (fl n) := by
    unfold meanO; rw [if_neg hz]
  rw [hm]
  have a1 := run_arith_all .quo (by simp)
  have a2 := run_arith_all .mul (by simp)
  by_cases hi : rg s = 9218868437227405312
  · go_enter Try.func19, Try.ntmps19
    go_wp2_with fail
    refine (isInf22 s hs.lt _).mono ?_
    rintro e w' ⟨rfl, rfl⟩
    rw [decide_eq_true hi]
    go_wp2
    go_ret
    refine ⟨_, rfl, ?_, ?_⟩
    · refine hs.bind (fun hnan => absurd hi (by unfold nan at hnan; simp at hnan; omega)) ?_
      rw [if_pos hi]
      refine RelO.bind (b := arithF .quo t (fl n) (w.alloc (.cells #[.float .f64 s, .float .f64 t, .int .i64 (n : Int)] 35))) (ht.bind div_nan (arithF_rel .quo (by simp) _ _ _)) mul_nan ?_
      exact arithF_rel .mul (by simp) _ _ _
    · exact below_drewN ((Below.refl _ w).alloc (Nat.le_refl _) _) _
  · go_enter Try.func19, Try.ntmps19
    go_wp2_with fail
    refine (isInf22 s hs.lt _).mono ?_
    rintro e w' ⟨rfl, rfl⟩
    rw [decide_eq_false hi]
    go_wp2
    go_ret
    refine ⟨_, rfl, ?_, below_drewN ((Below.refl _ w).alloc (Nat.le_refl _) _) _⟩
    refine hs.bind (fun hnan => by rw [if_neg hi]; exact div_nan hnan) ?_
    rw [if_neg hi]
    exact arithF_rel .quo (by simp) _ _ _

theorem nan_lit : nan 9221120237041090561 = true := by decide

set_option maxHeartbeats 400000 in
theorem result_zero (g : Nat) (T : Tot) (hz : T.n = 0) (w : World) (hg : g < w.heap.size) (h : AccAt w g T) :
    Calls Try.prog 14 #[.pointer (some ⟨g, 0, none⟩)] w fun e w' => ∃ a b c, e = .returned (.agg #[.float .f64 a, .float .f64 b, .float .f64 c]) ∧ RelO (meanO T) a ∧ RelO (resMin T) b ∧ RelO (resMax T) c ∧ Below w.heap.size w w' := by
  have c2 := h.c2
  rw [hz] at c2
  have c2 : w.cell? ⟨g, 2, none⟩ = some (.int .i64 0) := c2
  have hr : ∀ o, o = meanO T ∨ o = resMin T ∨ o = resMax T → RelO o 9221120237041090561 := by
    intro o ho
    have : o = none := by
      rcases ho with rfl | rfl | rfl
      · unfold meanO; rw [if_pos hz]
      · unfold resMin; rw [if_pos hz]
      · unfold resMax; rw [if_pos hz]
    rw [this]
    exact ⟨nan_lit, by omega⟩
  go_enter Try.func14, Try.ntmps14
  go_wp2_with (go_at_call 18; refine (nan18 _).mono ?_; rintro e w' ⟨rfl, rfl⟩)
  refine bodyPost_ret (v := .agg #[.float .f64 9221120237041090561, .float .f64 9221120237041090561, .float .f64 9221120237041090561]) (by simp [results, Try.results14, go_sem]) rfl ?_
  exact ⟨_, _, _, rfl, hr _ (Or.inl rfl), hr _ (Or.inr (Or.inl rfl)), hr _ (Or.inr (Or.inr rfl)), (Below.refl _ _).alloc (Nat.le_refl _) _⟩

theorem res_facts {w w1 : World} {g : Nat} {z0 z1 z2 : Value} {v3 v4 : Value} (hg : g < w.heap.size) (c3 : w.cell? ⟨g, 3, none⟩ = some v3) (c4 : w.cell? ⟨g, 4, none⟩ = some v4)
    (hb : Below (w.alloc (.cells #[z0, z1, z2] 27)).drew.heap.size (w.alloc (.cells #[z0, z1, z2] 27)).drew w1) :
    w1.cell? ⟨g, 3, none⟩ = some v3 ∧ w1.cell? ⟨g, 4, none⟩ = some v4 ∧ w1.cell? ⟨w.heap.size, 0, none⟩ = some z0 ∧ w1.cell? ⟨w.heap.size, 1, none⟩ = some z1 ∧ w1.cell? ⟨w.heap.size, 2, none⟩ = some z2 ∧
    (∀ x, w1.frozen? ⟨w.heap.size, x, none⟩ = false) ∧ Below w.heap.size w w1 := by
  have hsz : (w.alloc (.cells #[z0, z1, z2] 27)).drew.heap.size = w.heap.size + 1 := by simp
  rw [hsz] at hb
  have hB : Below w.heap.size w w1 := (((Below.refl _ w).alloc (Nat.le_refl _) _).drew).trans (hb.mono (by omega))
  have h := hb.block w.heap.size (by omega)
  have h' : w1.heap[w.heap.size]? = some (.cells #[z0, z1, z2] 27) := h.trans (heap_alloc_new _ _)
  refine ⟨(hB.cell (p := ⟨g, 3, none⟩) hg).trans c3, (hB.cell (p := ⟨g, 4, none⟩) hg).trans c4, ?_, ?_, ?_, ?_, hB⟩
  · simp [World.cell?, h']
  · simp [World.cell?, h']
  · simp [World.cell?, h']
  · intro x; simp [World.frozen?, h']

end Go.Proofs.Qxb6627523a
