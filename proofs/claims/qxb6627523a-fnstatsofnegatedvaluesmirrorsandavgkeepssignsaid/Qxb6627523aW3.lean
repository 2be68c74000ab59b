/-
  Seat b6627523a: the accumulator's methods by their contracts: total.add (17), stats.add (13).
-/
import Derived.Test.Qxb6627523aW2
namespace Go.Proofs.Qxb6627523a
open Go.RowKit Fl

theorem run_store_float (P : Program) (w : World) (a : Addr) (m : Mode) (k : FloatKind) (n : Nat) : (store a (.float k n) m).run P w = stored P w a (.float k n) m := run_store P w a _ m rfl
attribute [local go_sem] run_store_float

/-- outside block g the world is as it was -/
structure OffG (g : Nat) (w w' : World) : Prop where
  os : w'.os = w.os
  tape : w'.tape = w.tape
  output : w'.output = w.output
  size : w'.heap.size = w.heap.size
  block : ∀ k, k ≠ g → w'.heap[k]? = w.heap[k]?

theorem OffG.refl (g : Nat) (w : World) : OffG g w w := ⟨rfl, rfl, rfl, rfl, fun _ _ => rfl⟩
theorem OffG.trans {g : Nat} {a b c : World} (h : OffG g a b) (k : OffG g b c) : OffG g a c :=
  ⟨k.os.trans h.os, k.tape.trans h.tape, k.output.trans h.output, k.size.trans h.size, fun i hi => (k.block i hi).trans (h.block i hi)⟩
theorem OffG.setCell {g : Nat} {a w : World} (h : OffG g a w) (x : Nat) (v : Value) : OffG g a (w.setCell ⟨g, x, none⟩ v) :=
  ⟨h.os, h.tape, h.output, by simpa [World.setCell] using h.size, fun k hk => (Below.heap_setCell _ _ _ _ hk).trans (h.block k hk)⟩
theorem OffG.drewN {g : Nat} {a w : World} (h : OffG g a w) (n : Nat) : OffG g a (w.drewN n) := ⟨h.os, h.tape, h.output, h.size, h.block⟩
theorem OffG.drew {g : Nat} {a w : World} (h : OffG g a w) : OffG g a w.drew := ⟨h.os, h.tape, h.output, h.size, h.block⟩

theorem cellAt {w : World} {g x : Nat} {v : Value} (h : (w.cell? ⟨g, x, none⟩).isSome = true) : (w.setCell ⟨g, x, none⟩ v).cell? ⟨g, x, none⟩ = some v := World.cell?_setCell_same' _ _ _ h
theorem cellOff {w : World} {g x y : Nat} {v : Value} (h : x ≠ y) : (w.setCell ⟨g, x, none⟩ v).cell? ⟨g, y, none⟩ = w.cell? ⟨g, y, none⟩ :=
  World.cell?_setCell_other _ _ _ _ (by intro e; apply h; injection e)

/-- the accumulator in block g -/
structure AccAt (w : World) (g : Nat) (T : Tot) : Prop where
  c0 : ∃ s, w.cell? ⟨g, 0, none⟩ = some (.float .f64 s) ∧ RelO T.s s
  c1 : ∃ t, w.cell? ⟨g, 1, none⟩ = some (.float .f64 t) ∧ RelO T.t t
  c2 : w.cell? ⟨g, 2, none⟩ = some (.int .i64 (T.n : Int))
  c3 : w.cell? ⟨g, 3, none⟩ = some (.float .f64 T.mn)
  c4 : w.cell? ⟨g, 4, none⟩ = some (.float .f64 T.mx)
  free : ∀ x, w.frozen? ⟨g, x, none⟩ = false

theorem AccAt.of_heap {w w' : World} {g : Nat} {T : Tot} (h : AccAt w g T) (e : w'.heap[g]? = w.heap[g]?) : AccAt w' g T := by
  have hc : ∀ x, w'.cell? ⟨g, x, none⟩ = w.cell? ⟨g, x, none⟩ := fun x => World.cell?_of_block (w := w) e
  have hf : ∀ x, w'.frozen? ⟨g, x, none⟩ = w.frozen? ⟨g, x, none⟩ := fun x => World.frozen?_of_block (w := w) e
  obtain ⟨s, h1, h2⟩ := h.c0
  obtain ⟨t, h3, h4⟩ := h.c1
  exact ⟨⟨s, (hc 0).trans h1, h2⟩, ⟨t, (hc 1).trans h3, h4⟩, (hc 2).trans h.c2, (hc 3).trans h.c3, (hc 4).trans h.c4, fun x => (hf x).trans (h.free x)⟩

/-- the least and the greatest are written -/
theorem acc_two {w : World} {g : Nat} {T : Tot} (h : AccAt w g T) (a b : Nat) :
    AccAt ((w.setCell ⟨g, 3, none⟩ (.float .f64 a)).setCell ⟨g, 4, none⟩ (.float .f64 b)) g ⟨T.n, T.s, T.t, a, b⟩ := by
  obtain ⟨s, h1, h2⟩ := h.c0
  obtain ⟨t, h3, h4⟩ := h.c1
  refine ⟨⟨s, ?_, h2⟩, ⟨t, ?_, h4⟩, ?_, ?_, ?_, fun x => by simpa using h.free x⟩
  · rw [cellOff (by omega), cellOff (by omega), h1]
  · rw [cellOff (by omega), cellOff (by omega), h3]
  · rw [cellOff (by omega), cellOff (by omega), h.c2]
  · rw [cellOff (by omega), cellAt (by rw [h.c3]; rfl)]
  · rw [cellAt (by rw [cellOff (by omega), h.c4]; rfl)]

theorem acc_three {w : World} {g : Nat} {T : Tot} {s t : Nat} {v0 v1 v2 : Value} (c0 : w.cell? ⟨g, 0, none⟩ = some v0) (c1 : w.cell? ⟨g, 1, none⟩ = some v1) (c2 : w.cell? ⟨g, 2, none⟩ = some v2)
    (c3 : w.cell? ⟨g, 3, none⟩ = some (.float .f64 T.mn)) (c4 : w.cell? ⟨g, 4, none⟩ = some (.float .f64 T.mx)) (free : ∀ x, w.frozen? ⟨g, x, none⟩ = false) (hs : RelO T.s s) (ht : RelO T.t t) :
    AccAt (((w.setCell ⟨g, 0, none⟩ (.float .f64 s)).setCell ⟨g, 1, none⟩ (.float .f64 t)).setCell ⟨g, 2, none⟩ (.int .i64 (T.n : Int))) g T := by
  refine ⟨⟨s, ?_, hs⟩, ⟨t, ?_, ht⟩, ?_, ?_, ?_, fun x => by simpa using free x⟩
  · rw [cellOff (by omega), cellOff (by omega), cellAt (by rw [c0]; rfl)]
  · rw [cellOff (by omega), cellAt (by rw [cellOff (by omega), c1]; rfl)]
  · rw [cellAt (by rw [cellOff (by omega), cellOff (by omega), c2]; rfl)]
  · rw [cellOff (by omega), cellOff (by omega), cellOff (by omega), c3]
  · rw [cellOff (by omega), cellOff (by omega), cellOff (by omega), c4]

theorem fl1 : floatOfInt .f64 1 = 4607182418800017408 := by decide

theorem run_mul_one (v : Nat) (h : Num v) (w : World) : (binOp .mul 24 (.float .f64 v) (.float .f64 4607182418800017408)).run Try.prog w = .ok (.float .f64 v) w :=
  run_float_arith w .mul 24 .f64 v _ v (mul_one h)
theorem run_mul_down (v : Nat) (h : Num v) (w : World) : (binOp .mul 24 (.float .f64 v) (.float .f64 4318952042648305664)).run Try.prog w = .ok (.float .f64 (sc v)) w :=
  run_float_arith w .mul 24 .f64 v _ (sc v) (sc_some h)

set_option maxHeartbeats 400000 in
theorem tadd_first (g v mn mx s t : Nat) (hv : Num v) (w : World) (c0 : w.cell? ⟨g, 0, none⟩ = some (.float .f64 s)) (c1 : w.cell? ⟨g, 1, none⟩ = some (.float .f64 t)) (c2 : w.cell? ⟨g, 2, none⟩ = some (.int .i64 0))
    (c3 : w.cell? ⟨g, 3, none⟩ = some (.float .f64 mn)) (c4 : w.cell? ⟨g, 4, none⟩ = some (.float .f64 mx)) (free : ∀ x, w.frozen? ⟨g, x, none⟩ = false) :
    Calls Try.prog 17 #[.pointer (some ⟨g, 0, none⟩), .float .f64 v, .int .i64 1] w fun e w' => e = .returned (.tuple #[]) ∧ AccAt w' g ⟨1, some v, some (sc v), mn, mx⟩ ∧ OffG g w w' := by
  have f1 := fl1
  have m1 := run_mul_one v hv
  have m2 := run_mul_down v hv
  have m3 := run_mul_one (sc v) (sc_num hv)
  have hnv := nan_of hv
  go_enter Try.func17, Try.ntmps17
  go_wp2_with fail
  refine (isValue16 v _).mono ?_
  rintro e w' ⟨rfl, rfl⟩
  rw [hnv]
  go_wp2
  go_end0
  refine ⟨rfl, ?_, (((OffG.refl g w').setCell 0 _).setCell 1 _).setCell 2 _⟩
  exact acc_three (T := ⟨1, some v, some (sc v), mn, mx⟩) c0 c1 c2 c3 c4 free ⟨rfl, hv⟩ ⟨rfl, sc_num hv⟩

set_option maxHeartbeats 400000 in
theorem tadd_next (g v n mn mx s t : Nat) (S T : Option Nat) (hv : Num v) (hn : 0 < n) (hn2 : n ≤ 1048576) (w : World) (hS : RelO S s) (hT : RelO T t) (c0 : w.cell? ⟨g, 0, none⟩ = some (.float .f64 s)) (c1 : w.cell? ⟨g, 1, none⟩ = some (.float .f64 t)) (c2 : w.cell? ⟨g, 2, none⟩ = some (.int .i64 (n : Int)))
    (c3 : w.cell? ⟨g, 3, none⟩ = some (.float .f64 mn)) (c4 : w.cell? ⟨g, 4, none⟩ = some (.float .f64 mx)) (free : ∀ x, w.frozen? ⟨g, x, none⟩ = false) :
    Calls Try.prog 17 #[.pointer (some ⟨g, 0, none⟩), .float .f64 v, .int .i64 1] w fun e w' => e = .returned (.tuple #[]) ∧ AccAt w' g ⟨n + 1, addO S v, addO T (sc v), mn, mx⟩ ∧ OffG g w w' := by
  have f1 := fl1
  have m1 := run_mul_one v hv
  have m2 := run_mul_down v hv
  have m3 := run_mul_one (sc v) (sc_num hv)
  have hnv := nan_of hv
  have hn0 : ((n : Int) == 0) = false := by simp; omega
  obtain ⟨F1, k1, a1, r1⟩ := run_arith .add (by simp) s v
  obtain ⟨F2, k2, a2, r2⟩ := run_arith .add (by simp) t (sc v)
  go_enter Try.func17, Try.ntmps17
  go_wp2_with fail
  refine (isValue16 v _).mono ?_
  rintro e w' ⟨rfl, rfl⟩
  rw [hnv]
  go_wp2
  go_end0
  refine ⟨rfl, ?_, ((((((OffG.refl g w').drewN k1).setCell 0 _).drewN k2).setCell 1 _).setCell 2 _)⟩
  have h := acc_three (T := ⟨n + 1, addO S v, addO T (sc v), mn, mx⟩) c0 c1 c2 c3 c4 free (hS.add (r1 w')) (hT.add (r2 ((w'.drewN k1).setCell ⟨g, 0, none⟩ (.float .f64 (F1 w')))))
  rw [show (((n + 1 : Nat) : Int)) = (n : Int) + 1 from by omega] at h
  exact h.of_heap rfl

/-- total.add at the accumulator -/
theorem tadd (g v : Nat) (T : Tot) (hv : Num v) (hn : T.n ≤ 1048576) (w : World) (h : AccAt w g T) :
    Calls Try.prog 17 #[.pointer (some ⟨g, 0, none⟩), .float .f64 v, .int .i64 1] w fun e w' => e = .returned (.tuple #[]) ∧
      AccAt w' g (if T.n = 0 then ⟨1, some v, some (sc v), T.mn, T.mx⟩ else ⟨T.n + 1, addO T.s v, addO T.t (sc v), T.mn, T.mx⟩) ∧ OffG g w w' := by
  obtain ⟨s, h1, h2⟩ := h.c0
  obtain ⟨t, h3, h4⟩ := h.c1
  by_cases hz : T.n = 0
  · rw [if_pos hz]
    have h5 := h.c2
    rw [hz] at h5
    exact tadd_first g v T.mn T.mx s t hv w h1 h3 h5 h.c3 h.c4 h.free
  · rw [if_neg hz]
    exact tadd_next g v T.n T.mn T.mx s t T.s T.t hv (by omega) hn w h2 h4 h1 h3 h.c2 h.c3 h.c4 h.free

/-- min and max, run -/
theorem run_min (x y : Nat) (hx : Num x) (hy : Num y) (w : World) : (Builtin.min_ #[24, 24] 24 #[.float .f64 x, .float .f64 y]).run Try.prog w = .ok (.float .f64 (minK x y)) w := by
  have hd := sg_eq x
  have ho : ∃ o, FloatKind.f64.format.order x y = some o := ⟨_, order_eq hx.2 hy.2⟩
  obtain ⟨o, ho⟩ := ho
  cases o with
  | lt => rw [(min_lt hx hy ho).1]; simp [Builtin.min_, Builtin.min2, ho]
  | eq => rw [(min_eq hx hy ho).1]; simp [Builtin.min_, Builtin.min2, ho, hd]
  | gt => rw [(min_gt hx hy ho).1]; simp [Builtin.min_, Builtin.min2, ho]

theorem run_max (x y : Nat) (hx : Num x) (hy : Num y) (w : World) : (Builtin.max_ #[24, 24] 24 #[.float .f64 x, .float .f64 y]).run Try.prog w = .ok (.float .f64 (maxK x y)) w := by
  have hd := sg_eq x
  have ho : ∃ o, FloatKind.f64.format.order x y = some o := ⟨_, order_eq hx.2 hy.2⟩
  obtain ⟨o, ho⟩ := ho
  cases o with
  | lt => rw [(min_lt hx hy ho).2]; simp [Builtin.max_, Builtin.max2, ho]
  | eq => rw [(min_eq hx hy ho).2]; simp [Builtin.max_, Builtin.max2, ho, hd]
  | gt => rw [(min_gt hx hy ho).2]; simp [Builtin.max_, Builtin.max2, ho]

set_option maxHeartbeats 400000 in
theorem sadd_next (g v : Nat) (T : Tot) (hv : Num v) (hn : T.n ≤ 1048576) (hz : T.n ≠ 0) (hmn : Num T.mn) (hmx : Num T.mx) (w : World) (h : AccAt w g T) :
    Calls Try.prog 13 #[.pointer (some ⟨g, 0, none⟩), .float .f64 v] w fun e w' => e = .returned (.tuple #[]) ∧ AccAt w' g (T.take v) ∧ OffG g w w' := by
  obtain ⟨n, S, Tt, mn, mx⟩ := T
  obtain ⟨⟨s, h1, h2⟩, ⟨t, h3, h4⟩, c2, c3, c4, free⟩ := h
  simp only at h2 h4 c2 c3 c4 hmn hmx hz hn
  have hnv := nan_of hv
  have hn0 : ((n : Int) == 0) = false := by simp; omega
  have q1 := run_min mn v hmn hv
  have q2 := run_max mx v hmx hv
  go_enter Try.func13, Try.ntmps13
  go_wp2_with fail
  refine (isValue16 v _).mono ?_
  rintro e w' ⟨rfl, rfl⟩
  rw [hnv]
  go_wp2_with fail
  go_region
  go_wp2_with fail
  have hA := (acc_two (w := w') (g := g) (T := ⟨n, S, Tt, mn, mx⟩) ⟨⟨s, h1, h2⟩, ⟨t, h3, h4⟩, c2, c3, c4, free⟩ (minK mn v) (maxK mx v))
  have hA2 : AccAt ((w'.setCell ⟨g, 3, none⟩ (.float .f64 (minK mn v))).setCell ⟨g, 4, none⟩ (.float .f64 (maxK mx v))).drew g ⟨n, S, Tt, minK mn v, maxK mx v⟩ := hA.of_heap rfl
  refine (tadd g v ⟨n, S, Tt, minK mn v, maxK mx v⟩ hv hn _ hA2).mono ?_
  rintro e w1 ⟨rfl, hB, hoff⟩
  rw [if_neg hz] at hB
  go_wp2
  go_end0
  refine ⟨rfl, ?_, ((((OffG.refl g w').setCell 3 _).setCell 4 _).drew).trans hoff⟩
  unfold Tot.take
  rw [if_neg hz]
  exact hB

set_option maxHeartbeats 400000 in
theorem sadd_first (g v : Nat) (T : Tot) (hv : Num v) (hz : T.n = 0) (w : World) (h : AccAt w g T) :
    Calls Try.prog 13 #[.pointer (some ⟨g, 0, none⟩), .float .f64 v] w fun e w' => e = .returned (.tuple #[]) ∧ AccAt w' g (T.take v) ∧ OffG g w w' := by
  obtain ⟨n, S, Tt, mn, mx⟩ := T
  obtain ⟨⟨s, h1, h2⟩, ⟨t, h3, h4⟩, c2, c3, c4, free⟩ := h
  simp only at h2 h4 c2 c3 c4 hz
  subst hz
  have hnv := nan_of hv
  have c2 : w.cell? ⟨g, 2, none⟩ = some (.int .i64 0) := c2
  go_enter Try.func13, Try.ntmps13
  go_wp2_with fail
  refine (isValue16 v _).mono ?_
  rintro e w' ⟨rfl, rfl⟩
  rw [hnv]
  go_wp2_with fail
  have hA := (acc_two (w := w') (g := g) (T := ⟨0, S, Tt, mn, mx⟩) ⟨⟨s, h1, h2⟩, ⟨t, h3, h4⟩, c2, c3, c4, free⟩ v v)
  refine (tadd g v ⟨0, S, Tt, v, v⟩ hv (by simp) _ hA).mono ?_
  rintro e w1 ⟨rfl, hB, hoff⟩
  rw [if_pos rfl] at hB
  go_wp2
  go_end0
  exact ⟨rfl, hB, (((OffG.refl g w').setCell 3 _).setCell 4 _).trans hoff⟩

set_option maxHeartbeats 400000 in
theorem sadd_nan (g v : Nat) (hv : nan v = true) (w : World) :
    Calls Try.prog 13 #[.pointer (some ⟨g, 0, none⟩), .float .f64 v] w fun e w' => e = .returned (.tuple #[]) ∧ w' = w := by
  go_enter Try.func13, Try.ntmps13
  go_wp2_with fail
  refine (isValue16 v _).mono ?_
  rintro e w' ⟨rfl, rfl⟩
  rw [hv]
  go_wp2
  exact bodyPost_ret (results_none rfl _ _ _) rfl ⟨rfl, rfl⟩

/-- the least and the greatest are numbers once there is one -/
def Tot.Ok (T : Tot) : Prop := T.n ≠ 0 → Num T.mn ∧ Num T.mx

theorem Tot.take_ok {T : Tot} {v : Nat} (h : T.Ok) (hv : Num v) : (T.take v).Ok := by
  intro _
  unfold Tot.take
  split
  · exact ⟨hv, hv⟩
  · rename_i hz
    exact ⟨minK_num (h hz).1 hv, maxK_num (h hz).2 hv⟩

theorem Tot.step_ok {T : Tot} {v : Nat} (h : T.Ok) (hv : v < 18446744073709551616) : (T.step v).Ok := by
  unfold Tot.step
  by_cases hn : nan v = true
  · rw [if_pos hn]; exact h
  · rw [if_neg hn]; exact Tot.take_ok h (num_of hv (by simpa using hn))

/-- stats.add -/
theorem sadd (g v : Nat) (T : Tot) (hv : v < 18446744073709551616) (hn : T.n ≤ 1048576) (hok : T.Ok) (w : World) (h : AccAt w g T) :
    Calls Try.prog 13 #[.pointer (some ⟨g, 0, none⟩), .float .f64 v] w fun e w' => e = .returned (.tuple #[]) ∧ AccAt w' g (T.step v) ∧ OffG g w w' := by
  unfold Tot.step
  by_cases hnv : nan v = true
  · rw [if_pos hnv]
    refine (sadd_nan g v hnv w).mono ?_
    rintro e w' ⟨rfl, rfl⟩
    exact ⟨rfl, h, OffG.refl _ _⟩
  · rw [if_neg hnv]
    have nv := num_of hv (by simpa using hnv)
    by_cases hz : T.n = 0
    · exact sadd_first g v T nv hz w h
    · exact sadd_next g v T nv hn hz (hok hz).1 (hok hz).2 w h

end Go.Proofs.Qxb6627523a
