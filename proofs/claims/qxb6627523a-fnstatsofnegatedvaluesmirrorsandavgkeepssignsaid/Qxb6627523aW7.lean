/-
  Seat b6627523a: FnStatsIgnoresAGapAnywhereAndFindsExtremes (3): the walk.
-/
import Derived.Test.Qxb6627523aW6
import Derived.Test.Qxb6627523aLa
namespace Go.Proofs.Qxb6627523a
open Go.RowKit Fl
attribute [local go_sem] run_store_float

set_option maxHeartbeats 400000 in
theorem bytes5 (f t r p : Int) (ao : Option Addr) (n c : Nat) (hn : n ≤ 65536) (w : World) :
    Calls Try.prog 5 #[.int .i64 f, .int .i64 t, .int .i64 r, .slice ao n c, .int .i64 p] w fun e w' => e = .returned (.bool true) ∧ w' = w := by
  go_enter Try.func5, Try.ntmps5
  go_wp2
  go_ret
  exact ⟨rfl, rfl⟩

theorem Try.info24 : (Try.prog.info? 24).map (fun i => (i.zero, i.size, i.bytes)) = some (some (.float .f64 0), 1, 8) := by kernel_rfl

theorem make22 (n : Nat) (hn : n ≤ 1048576) :
    ∃ cur : Array Value, cur.size = n ∧ ∀ w, (Instr.makeSlice 22 (.int .i64 (n : Int)) (.int .i64 (n : Int))).run Try.prog w = .ok (.slice (some ⟨w.heap.size, 0, none⟩) n n) (w.alloc (.cells cur 24)) := by
  obtain ⟨i, hi, hz0, hz1, hz2⟩ := info_parts Try.info24
  refine ⟨madeCells (Value.float .f64 0).cells n, size_madeCells _ _, fun w => ?_⟩
  have := run_make (P := Try.prog) w 22 24 i _ Try.underlying22 hi hz0 .i64 .i64 n n (by omega) (Int.le_refl _) (by rw [hz2]; omega) (by omega)
  simpa [hz1] using this

/-- a row of floats of the call's own, its first k cells told -/
structure RowF (w : World) (g len : Nat) (f : Nat → Nat) (k : Nat) : Prop where
  room : ∀ x, x < len → (w.cell? ⟨g, x, none⟩).isSome = true
  free : ∀ x, w.frozen? ⟨g, x, none⟩ = false
  el : ∀ i, i < k → w.cell? ⟨g, i, none⟩ = some (.float .f64 (f i))
  blk : g < w.heap.size

theorem RowF.start' {w : World} {g : Nat} {cur : Array Value} {f : Nat → Nat} (h : w.heap[g]? = some (.cells cur 24)) : RowF w g cur.size f 0 := by
  refine ⟨fun x hx => ?_, fun x => ?_, fun i hi => by omega, (Array.getElem?_eq_some_iff.1 h).1⟩
  · simp [World.cell?, h, hx]
  · simp [World.frozen?, h]

theorem RowF.start (w : World) (cur : Array Value) (f : Nat → Nat) : RowF (w.alloc (.cells cur 24)) w.heap.size cur.size f 0 := RowF.start' (heap_alloc_new _ _)

theorem RowF.put {w : World} {g len : Nat} {f : Nat → Nat} {k : Nat} (h : RowF w g len f k) (hk : k < len) : RowF (w.setCell ⟨g, k, none⟩ (.float .f64 (f k))) g len f (k + 1) := by
  refine ⟨fun x hx => ?_, fun x => by simpa using h.free x, fun i hi => ?_, by simpa [World.setCell] using h.blk⟩
  · by_cases e : k = x
    · subst e; rw [cellAt (h.room k hk)]; rfl
    · rw [cellOff e]; exact h.room x hx
  · by_cases e : k = i
    · subst e; rw [cellAt (h.room k hk)]
    · rw [cellOff e]; exact h.el i (by omega)

theorem RowF.congr {w : World} {g len : Nat} {f f' : Nat → Nat} {k : Nat} (h : RowF w g len f k) (e : ∀ i, i < k → f i = f' i) : RowF w g len f' k :=
  ⟨h.room, h.free, fun i hi => by rw [← e i hi]; exact h.el i hi, h.blk⟩

theorem RowF.move {w w' : World} {g len : Nat} {f : Nat → Nat} {k : Nat} (h : RowF w g len f k) (e : w'.heap[g]? = w.heap[g]?) : RowF w' g len f k := by
  have hc : ∀ x, w'.cell? ⟨g, x, none⟩ = w.cell? ⟨g, x, none⟩ := fun x => World.cell?_of_block (w := w) e
  refine ⟨fun x hx => (congrArg _ (hc x)).trans (h.room x hx), fun x => (World.frozen?_of_block (w := w) e).trans (h.free x), fun i hi => (hc i).trans (h.el i hi), ?_⟩
  rw [Array.getElem?_eq_getElem h.blk] at e
  exact (Array.getElem?_eq_some_iff.1 e).1

/-- the values with b put in at place p -/
def gapF (zs : List Nat) (p b i : Nat) : Nat := if i < p then zs.getD i 0 else if i = p then b else zs.getD (i - 1) 0
def gapL (zs : List Nat) (p b : Nat) : List Nat := zs.take p ++ b :: zs.drop p

theorem gapL_get {zs : List Nat} {p b i z : Nat} (hp : p ≤ zs.length) (h : (gapL zs p b)[i]? = some z) : i < zs.length + 1 ∧ gapF zs p b i = z := by
  have hlen : (gapL zs p b).length = zs.length + 1 := by unfold gapL; simp; omega
  have hi : i < zs.length + 1 := by
    have := (List.getElem?_eq_some_iff.1 h).1
    omega
  refine ⟨hi, ?_⟩
  unfold gapL at h
  unfold gapF
  have ht : (zs.take p).length = p := by rw [List.length_take]; omega
  by_cases h1 : i < p
  · rw [if_pos h1]
    rw [List.getElem?_append_left (by omega), List.getElem?_take, if_pos h1] at h
    simp [List.getD, h]
  · rw [if_neg h1]
    rw [List.getElem?_append_right (by omega), ht] at h
    by_cases h2 : i = p
    · rw [if_pos h2]
      subst h2
      simpa using h
    · rw [if_neg h2]
      obtain ⟨j, hj⟩ : ∃ j, i - p = j + 1 := ⟨i - p - 1, by omega⟩
      rw [hj, List.getElem?_cons_succ, List.getElem?_drop, show p + j = i - 1 by omega] at h
      simp [List.getD, h]

theorem gapL_vals {w : World} {g p b : Nat} {zs : List Nat} (hp : p ≤ zs.length) (h : RowF w g (zs.length + 1) (gapF zs p b) (zs.length + 1)) : ValsAt w (some ⟨g, 0, none⟩) (gapL zs p b) := by
  intro i z hi
  obtain ⟨h1, h2⟩ := gapL_get hp hi
  refine ⟨g, 0, rfl, ?_⟩
  rw [Nat.zero_add, h.el i h1, h2]

theorem ValsAt.move {w w' : World} {ao : Option Addr} {zs : List Nat} (h : ValsAt w ao zs) (hb : Below w.heap.size w w') : ValsAt w' ao zs := by
  intro i z hi
  obtain ⟨b, o, rfl, hc⟩ := h i z hi
  refine ⟨b, o, rfl, ?_⟩
  have hlt : b < w.heap.size := by
    simp only [World.cell?] at hc
    by_cases h : b < w.heap.size
    · exact h
    · rw [Array.getElem?_eq_none (by omega)] at hc; cases hc
  exact (hb.cell (p := ⟨b, o + i, none⟩) hlt).trans hc

/-- what holds behind the two calls of Stats: the plain result's block -/
structure After (w wr : World) (ao : Option Addr) (zs : List Nat) (h a b d : Nat) : Prop where
  c0 : wr.cell? ⟨h, 0, none⟩ = some (.float .f64 a)
  c1 : wr.cell? ⟨h, 1, none⟩ = some (.float .f64 b)
  c2 : wr.cell? ⟨h, 2, none⟩ = some (.float .f64 d)
  vals : ValsAt wr ao zs
  below : Below w.heap.size w wr

theorem box3 {w4 w5 : World} {v0 v1 v2 : Value} {t : TypeId} (hb : Below (w4.heap.size + 1) (w4.alloc (.cells #[v0, v1, v2] t)) w5) :
    w5.cell? ⟨w4.heap.size, 0, none⟩ = some v0 ∧ w5.cell? ⟨w4.heap.size, 1, none⟩ = some v1 ∧ w5.cell? ⟨w4.heap.size, 2, none⟩ = some v2 ∧ w4.heap.size < w5.heap.size := by
  have h := (hb.block w4.heap.size (by omega)).trans (heap_alloc_new _ _)
  refine ⟨?_, ?_, ?_, ?_⟩
  · simp [World.cell?, h]
  · simp [World.cell?, h]
  · simp [World.cell?, h]
  · have := hb.size
    simp at this
    omega

theorem step_n' (T : Tot) (v : Nat) : (T.step v).n = if nan v then T.n else T.n + 1 := by
  unfold Tot.step Tot.take
  by_cases h1 : nan v = true
  · rw [if_pos h1, if_pos h1]
  · rw [if_neg h1, if_neg h1]
    by_cases h2 : T.n = 0
    · rw [if_pos h2, h2]
    · rw [if_neg h2]

/-- how many are no NaN, after one more -/
theorem take_n (zs : List Nat) {q : Nat} (h : q < zs.length) : (stats (zs.take (q + 1))).n = if nan zs[q] then (stats (zs.take q)).n else (stats (zs.take q)).n + 1 := by
  rw [List.take_succ_eq_append_getElem h, stats_snoc, step_n']
theorem take_last (zs : List Nat) {q : Nat} (h : q < zs.length) : lastV (zs.take (q + 1)) = if nan zs[q] then lastV (zs.take q) else zs[q] := by
  rw [List.take_succ_eq_append_getElem h, lastV_snoc]
theorem take_any (zs : List Nat) (b : Nat) {q : Nat} (h : q < zs.length) : (zs.take (q + 1)).any (sameB · b) = ((zs.take q).any (sameB · b) || sameB zs[q] b) := by
  rw [List.take_succ_eq_append_getElem h, List.any_append]
  simp
theorem sameB_nan {z b : Nat} (hz : nan z = true) (hb : nan b = false) : sameB z b = false := by
  unfold sameB
  rw [hz, hb]
  rfl
theorem sameB_refl {z : Nat} (hz : Num z) : sameB z z = true := by
  unfold sameB
  rw [nan_of hz]
  simp

theorem cell_lt' {w : World} {b x : Nat} {v : Value} (h : w.cell? ⟨b, x, none⟩ = some v) : b < w.heap.size := by
  simp only [World.cell?] at h
  by_cases hb : b < w.heap.size
  · exact hb
  · rw [Array.getElem?_eq_none (by omega)] at h
    cases h

theorem After.alloc {w wr : World} {ao : Option Addr} {zs : List Nat} {h a b d : Nat} (q : After w wr ao zs h a b d) (o : Obj) : After w (wr.alloc o) ao zs h a b d := by
  have hb : Below wr.heap.size wr (wr.alloc o) := (Below.refl _ wr).alloc (Nat.le_refl _) o
  have hlt := cell_lt' q.c0
  exact ⟨(hb.cell (p := ⟨h, 0, none⟩) hlt).trans q.c0, (hb.cell (p := ⟨h, 1, none⟩) hlt).trans q.c1, (hb.cell (p := ⟨h, 2, none⟩) hlt).trans q.c2, q.vals.move hb, q.below.trans (hb.mono q.below.size)⟩

set_option maxHeartbeats 2000000 in
set_option maxRecDepth 100000 in
theorem gap_walk (f t r : Int) (ao : Option Addr) (n c p : Nat) (zs : List Nat) (hl : zs.length = n) (hn : n ≤ 65536) (hp : p ≤ n) (hz : ∀ z ∈ zs, z < 18446744073709551616) (w : World) (hv : ValsAt w ao zs) :
    Calls Try.prog 3 #[.int .i64 f, .int .i64 t, .int .i64 r, .slice ao n c, .int .i64 (p : Int)] w fun e w' => e = .returned (.bool true) ∧ Below w.heap.size w w' := by
  have HL : Hid (zs.length = n) := hl
  have HZ : Hid (∀ z ∈ zs, z < 18446744073709551616) := hz
  clear hl hz
  obtain ⟨cur, hcur, hmk⟩ := make22 (n + 1) (by omega)
  rw [show ((n + 1 : Nat) : Int) = (n : Int) + 1 from by omega] at hmk
  have HC : Hid (cur.size = n + 1) := hcur
  clear hcur
  have tp0 : decide ((p : Int) < 0) = false := by simp
  have tp1 : decide ((n : Int) < (p : Int)) = false := by simp; omega
  have tn : decide ((65536 : Int) < (n : Int)) = false := by simp; omega
  go_enter Try.func3, Try.ntmps3
  go_wp2_with fail
  refine (bytes5 f t r p ao n c hn _).mono ?_
  rintro e w' ⟨rfl, rfl⟩
  go_wp2
  go_loopw [12] (fun i wr => ∃ k : Nat, k ≤ p ∧ i = .int .i64 k ∧ RowF wr w'.heap.size (n + 1) (fun i => zs.getD i 0) k ∧ Below w'.heap.size w' wr) (fun i _ => p - (intOf i).toNat)
  case atStart => exact ⟨0, Nat.zero_le _, rfl, by have := RowF.start w' cur (fun i => zs.getD i 0); rw [HC.out] at this; exact this, (Below.refl _ _).alloc (Nat.le_refl _) _⟩
  case round =>
    rename World => w1
    obtain ⟨k, hk, rfl, hrow, hbel⟩ := hrel
    by_cases hlt : k < p
    · obtain ⟨b, o, rfl, hc⟩ := hv.move hbel k (zs.getD k 0) (by rw [List.getElem?_eq_getElem (by rw [HL.out]; omega)]; simp [List.getD, List.getElem?_eq_getElem (show k < zs.length by rw [HL.out]; omega)])
      obtain ⟨y, hy⟩ := Option.isSome_iff_exists.1 (hrow.room k (by omega))
      have hf := hrow.free
      obtain ⟨z, hz⟩ : ∃ z, z = zs.getD k 0 := ⟨_, rfl⟩
      rw [← hz] at hc
      have HE : Hid (z = zs.getD k 0) := hz
      clear hz hv
      have e1 : (k : Int) < (n : Int) := by omega
      go_wp2
      go_roundw
      case rel =>
        refine ⟨k + 1, by omega, by go_num, ?_, hbel.setCell (Nat.le_refl _) _⟩
        rw [HE.out]
        exact hrow.put (by omega)
      case measure => simp [intOf]; omega
    · obtain rfl : k = p := by omega
      go_wp2_with fail
      refine (nan6 _).mono ?_
      rintro e w2 ⟨nb, rfl, hnan, hnlt, m, rfl⟩
      obtain ⟨y, hy⟩ := Option.isSome_iff_exists.1 (hrow.room k (by omega))
      have hf := hrow.free
      have hgap : RowF (w1.drewN m) w'.heap.size (n + 1) (gapF zs k nb) k := RowF.congr (f' := gapF zs k nb) (hrow.move (w' := w1.drewN m) rfl) fun i hi => by unfold gapF; rw [if_pos hi]
      have hb1 : Below w'.heap.size w' (w1.drewN m) := below_drewN hbel m
      have e1 : (k : Int) < (n : Int) + 1 := by omega
      clear hrow hbel
      go_wp2
      go_loopw [13] (fun i wr => ∃ j : Nat, k ≤ j ∧ j ≤ n ∧ i = .int .i64 j ∧ RowF wr w'.heap.size (n + 1) (gapF zs k nb) (j + 1) ∧ Below w'.heap.size w' wr) (fun i _ => n - (intOf i).toNat)
      case atStart =>
        have := hgap.put (show k < n + 1 by omega)
        rw [show gapF zs k nb k = nb by unfold gapF; rw [if_neg (by omega), if_pos rfl]] at this
        exact ⟨k, Nat.le_refl _, hp, rfl, this.move rfl, (hb1.setCell (Nat.le_refl _) _)⟩
      case round =>
        clear hy hf hgap hb1
        rename World => w3
        obtain ⟨j, hj0, hj, rfl, hrow, hbel⟩ := hrel
        by_cases hlt2 : j < n
        · obtain ⟨b, o, rfl, hc⟩ := hv.move hbel j (zs.getD j 0) (by rw [List.getElem?_eq_getElem (by rw [HL.out]; omega)]; simp [List.getD, List.getElem?_eq_getElem (show j < zs.length by rw [HL.out]; omega)])
          obtain ⟨y, hy⟩ := Option.isSome_iff_exists.1 (hrow.room (j + 1) (by omega))
          have hf := hrow.free
          have hg : gapF zs k nb (j + 1) = zs.getD j 0 := by unfold gapF; rw [if_neg (by omega), if_neg (by omega), Nat.add_sub_cancel]
          obtain ⟨z, hz⟩ : ∃ z, z = zs.getD j 0 := ⟨_, rfl⟩
          rw [← hz] at hc hg
          have HE : Hid (gapF zs k nb (j + 1) = z) := hg
          clear hz hv hg
          have e2 : (j : Int) < (n : Int) := by omega
          have e3 : (j : Int) + 1 < (n : Int) + 1 := by omega
          go_wp2
          go_roundw
          case rel =>
            refine ⟨j + 1, by omega, by omega, by go_num, ?_, hbel.setCell (Nat.le_refl _) _⟩
            have := hrow.put (show j + 1 < n + 1 by omega)
            rw [HE.out] at this
            exact this
          case measure => simp [intOf]; omega
        · obtain rfl : j = n := by omega
          have hvals3 := hv.move hbel
          have hgv : ValsAt w3 (some ⟨w'.heap.size, 0, none⟩) (gapL zs k nb) := by
            have h := HL.out
            subst h
            exact gapL_vals hp hrow
          have hgl : (gapL zs k nb).length = j + 1 := by
            unfold gapL
            have h := HL.out
            simp
            omega
          have hgz : ∀ z ∈ gapL zs k nb, z < 18446744073709551616 := by
            intro z hz
            unfold gapL at hz
            rcases List.mem_append.1 hz with h | h
            · exact HZ.out z (List.mem_of_mem_take h)
            · rcases List.mem_cons.1 h with h | h
              · rw [h]; exact hnlt
              · exact HZ.out z (List.mem_of_mem_drop h)
          have hgs : stats (gapL zs k nb) = stats zs := by
            unfold gapL
            rw [stats_gap _ _ hnan, List.take_append_drop]
          have HG : Hid ((gapL zs k nb).length = j + 1 ∧ (∀ z ∈ gapL zs k nb, z < 18446744073709551616) ∧ stats (gapL zs k nb) = stats zs) := ⟨hgl, hgz, hgs⟩
          have hrblk := hrow.blk
          clear hgl hgz hgs hrow hv
          go_wp2_with fail
          refine (stats7 f t r ao j c zs HL.out (by omega) HZ.out _ hvals3).mono ?_
          rintro e w4 ⟨a, b, d, rfl, ra, rb, rd, hb4⟩
          have z3 := hbel.size
          have z4 := hb4.size
          have hgv4 : ValsAt (w4.alloc (.cells #[.float .f64 a, .float .f64 b, .float .f64 d] 27)) (some ⟨w'.heap.size, 0, none⟩) (gapL zs k nb) :=
            (hgv.move hb4).move ((Below.refl _ w4).alloc (Nat.le_refl _) _)
          have hvals4 : ValsAt (w4.alloc (.cells #[.float .f64 a, .float .f64 b, .float .f64 d] 27)) ao zs := (hvals3.move hb4).move ((Below.refl _ w4).alloc (Nat.le_refl _) _)
          go_wp2_with fail
          refine (stats7 f t r _ (j + 1) (j + 1) (gapL zs k nb) HG.out.1 (by omega) HG.out.2.1 _ hgv4).mono ?_
          rintro e w5 ⟨a2, b2, d2, rfl, ra2, rb2, rd2, hb5⟩
          rw [HG.out.2.2] at ra2 rb2 rd2
          simp only [World.size_alloc] at hb5
          obtain ⟨p0, p1, p2, p3⟩ := box3 hb5
          have hAft : After w' w5 ao zs w4.heap.size a b d :=
            ⟨p0, p1, p2, hvals4.move (by simpa using hb5), ((hbel.trans (hb4.mono z3)).alloc (by omega) _).trans (hb5.mono (by omega))⟩
          have s1 := sameB_rel ra2 ra
          have s2 := sameB_rel rb2 rb
          have s3 := sameB_rel rd2 rd
          have la := ra.lt
          have lb := rb.lt
          have ld := rd.lt
          have la2 := ra2.lt
          have lb2 := rb2.lt
          have ld2 := rd2.lt
          have HR : Hid (RelO (meanO (stats zs)) a ∧ RelO (resMin (stats zs)) b ∧ RelO (resMax (stats zs)) d) := ⟨ra, rb, rd⟩
          clear hgv hvals3 hgv4 hvals4 hb4 hbel hb5 ra rb rd ra2 rb2 rd2 hrblk hmk
          go_wp2_with fail
          refine (same8 a2 a la2 la _).mono ?_
          rintro e w6 ⟨rfl, rfl⟩
          rw [s1]
          go_wp2_with fail
          refine (same8 b2 b lb2 lb _).mono ?_
          rintro e w6 ⟨rfl, rfl⟩
          rw [s2]
          go_wp2_with fail
          refine (same8 d2 d ld2 ld _).mono ?_
          rintro e w6 ⟨rfl, rfl⟩
          rw [s3]
          clear s1 s2 s3 la2 lb2 ld2 p0 p1 p2
          go_wp2
          go_loopw [16, 17, 18] (fun cn on i wr => ∃ q : Nat, q ≤ j ∧ i = .int .i64 q ∧ cn = .int .i64 ((stats (zs.take q)).n : Int) ∧ on = .float .f64 (lastV (zs.take q)) ∧ After w' wr ao zs w4.heap.size a b d) (fun _ _ i _ => j - (intOf i).toNat)
          case atStart => exact ⟨0, Nat.zero_le _, rfl, rfl, rfl, hAft.alloc _⟩
          case round =>
            clear hAft
            rename World => w7
            obtain ⟨q, hq, rfl, rfl, rfl, hAft⟩ := hrel
            have hcn := stats_n zs q
            by_cases hlt3 : q < j
            · have hqz : q < zs.length := by rw [HL.out]; exact hlt3
              obtain ⟨b0, o0, rfl, hc⟩ := hAft.vals q zs[q] (List.getElem?_eq_getElem hqz)
              have t1 := take_n zs hqz
              have t2 := take_last zs hqz
              obtain ⟨z, hz⟩ : ∃ z, z = zs[q] := ⟨_, rfl⟩
              rw [← hz] at hc t1 t2
              have HT : Hid ((stats (zs.take (q + 1))).n = (if nan z then (stats (zs.take q)).n else (stats (zs.take q)).n + 1) ∧ lastV (zs.take (q + 1)) = if nan z then lastV (zs.take q) else z) := ⟨t1, t2⟩
              clear t1 t2 hz
              go_wp2_with fail
              refine (isNaN9 z _).mono ?_
              rintro e w8 ⟨rfl, rfl⟩
              cases hnz : nan z with
              | true =>
                go_wp2
                go_roundw
                case rel =>
                  obtain ⟨t1, t2⟩ := HT.out
                  rw [if_pos hnz] at t1 t2
                  exact ⟨q + 1, by omega, by go_num, by rw [t1], by rw [t2], hAft⟩
                case measure => simp [intOf]; omega
              | false =>
                go_wp2
                go_roundw
                case rel =>
                  obtain ⟨t1, t2⟩ := HT.out
                  rw [if_neg (by simp [hnz])] at t1 t2
                  exact ⟨q + 1, by omega, by go_num, by rw [t1]; go_num, by rw [t2], hAft⟩
                case measure => simp [intOf]; omega
            · obtain rfl : q = j := by omega
              have htake : zs.take q = zs := List.take_of_length_le (by rw [HL.out]; exact Nat.le_refl _)
              rw [htake] at hcn ⊢
              have hgood := good_all zs HZ.out
              have HGd : Hid (Good zs) := hgood
              clear hgood htake
              obtain ⟨N, hN⟩ : ∃ N, N = (stats zs).n := ⟨_, rfl⟩
              rw [← hN] at hcn ⊢
              have HN : Hid (N = (stats zs).n) := hN
              clear hN
              have c0 := hAft.c0
              have c1 := hAft.c1
              have c2 := hAft.c2
              by_cases hN0 : N = 0
              · have hz : (stats zs).n = 0 := by rw [← HN.out]; exact hN0
                obtain ⟨ra, rb, rd⟩ := HR.out
                rw [show meanO (stats zs) = none by unfold meanO; rw [if_pos hz]] at ra
                rw [show resMin (stats zs) = none by unfold resMin; rw [if_pos hz]] at rb
                rw [show resMax (stats zs) = none by unfold resMax; rw [if_pos hz]] at rd
                have n1 := ra.1
                have n2 := rb.1
                have n3 := rd.1
                clear ra rb rd hz
                subst hN0
                go_wp2_with fail
                refine (isNaN9 a _).mono ?_
                rintro e w8 ⟨rfl, rfl⟩
                rw [n1]
                go_wp2_with fail
                refine (isNaN9 b _).mono ?_
                rintro e w8 ⟨rfl, rfl⟩
                rw [n2]
                go_wp2_with fail
                refine (isNaN9 d _).mono ?_
                rintro e w8 ⟨rfl, rfl⟩
                rw [n3]
                go_wp2
                go_ret
                exact ⟨rfl, hAft.below⟩
              · have hz : (stats zs).n ≠ 0 := by rw [← HN.out]; exact hN0
                obtain ⟨ra, rb, rd⟩ := HR.out
                rw [show resMin (stats zs) = some (stats zs).mn by unfold resMin; rw [if_neg hz]] at rb
                rw [show resMax (stats zs) = some (stats zs).mx by unfold resMax; rw [if_neg hz]] at rd
                obtain ⟨eb, nb1⟩ := rb
                obtain ⟨ed, nd1⟩ := rd
                rw [← eb] at nb1
                rw [← ed] at nd1
                obtain ⟨m1, _, m3⟩ := HGd.out.mn hz
                obtain ⟨m4, _, m6⟩ := HGd.out.mx hz
                rw [← eb] at m1 m3
                rw [← ed] at m4 m6
                have HM : Hid (b ∈ zs ∧ (∀ z ∈ zs, nan z = false → key b ≤ key z) ∧ d ∈ zs ∧ (∀ z ∈ zs, nan z = false → key z ≤ key d)) := ⟨m1, m3, m4, m6⟩
                have nb2 := nan_of nb1
                have nd2 := nan_of nd1
                have hNt : ((N : Int) == 0) = false := by simp; omega
                clear eb ed m1 m3 m4 m6 hz ra
                go_wp2_with fail
                refine (isNaN9 b _).mono ?_
                rintro e w8 ⟨rfl, rfl⟩
                rw [nb2]
                go_wp2_with fail
                refine (isNaN9 d _).mono ?_
                rintro e w8 ⟨rfl, rfl⟩
                rw [nd2]
                go_wp2
                go_loopw [19, 20, 21] (fun x1 x2 i wr => ∃ q' : Nat, q' ≤ q ∧ i = .int .i64 q' ∧ x1 = .bool ((zs.take q').any (sameB · b)) ∧ x2 = .bool ((zs.take q').any (sameB · d)) ∧ After w' wr ao zs w4.heap.size a b d) (fun _ _ i _ => q - (intOf i).toNat)
                case atStart => exact ⟨0, Nat.zero_le _, rfl, rfl, rfl, hAft⟩
                case round =>
                  clear hAft c0 c1 c2
                  obtain ⟨i, hi, rfl, rfl, rfl, hAft⟩ := hrel
                  have c0 := hAft.c0
                  have c1 := hAft.c1
                  have c2 := hAft.c2
                  by_cases hlt4 : i < q
                  · have hiz : i < zs.length := by rw [HL.out]; exact hlt4
                    obtain ⟨b0, o0, rfl, hc⟩ := hAft.vals i zs[i] (List.getElem?_eq_getElem hiz)
                    have t1 := take_any zs b hiz
                    have t2 := take_any zs d hiz
                    have hzm : zs[i] ∈ zs := List.getElem_mem hiz
                    have hzl := HZ.out _ hzm
                    have hk1 := HM.out.2.1 _ hzm
                    have hk2 := HM.out.2.2.2 _ hzm
                    obtain ⟨z, hz⟩ : ∃ z, z = zs[i] := ⟨_, rfl⟩
                    rw [← hz] at hc t1 t2 hzl hk1 hk2
                    have HT : Hid ((zs.take (i + 1)).any (sameB · b) = ((zs.take i).any (sameB · b) || sameB z b) ∧ (zs.take (i + 1)).any (sameB · d) = ((zs.take i).any (sameB · d) || sameB z d)) := ⟨t1, t2⟩
                    clear t1 t2 hz hzm
                    generalize (zs.take i).any (sameB · b) = y1 at HT ⊢
                    generalize (zs.take i).any (sameB · d) = y2 at HT ⊢
                    go_wp2_with fail
                    refine (isNaN9 z _).mono ?_
                    rintro e w8 ⟨rfl, rfl⟩
                    cases hnz : nan z with
                    | true =>
                      clear hk1 hk2
                      go_wp2
                      go_roundw
                      case rel =>
                        obtain ⟨t1, t2⟩ := HT.out
                        rw [sameB_nan hnz nb2, Bool.or_false] at t1
                        rw [sameB_nan hnz nd2, Bool.or_false] at t2
                        exact ⟨i + 1, by omega, by go_num, by rw [t1], by rw [t2], hAft⟩
                      case measure => simp [intOf]; omega
                    | false =>
                      have nz1 := num_of hzl hnz
                      have f1 : decide (key z < key b) = false := by have := hk1 hnz; simp; omega
                      have f2 : decide (key d < key z) = false := by have := hk2 hnz; simp; omega
                      clear hk1 hk2
                      go_wp2_with fail
                      refine (before10 z b nz1 nb1 _).mono ?_
                      rintro e w8 ⟨rfl, rfl⟩
                      rw [f1]
                      go_wp2_with fail
                      refine (before10 d z nd1 nz1 _).mono ?_
                      rintro e w8 ⟨rfl, rfl⟩
                      rw [f2]
                      clear f1 f2
                      go_wp2_with fail
                      refine (same8 z b hzl lb _).mono ?_
                      rintro e w8 ⟨rfl, rfl⟩
                      cases h1 : sameB z b with
                      | true =>
                        go_wp2_with fail
                        refine (same8 z d hzl ld _).mono ?_
                        rintro e w8 ⟨rfl, rfl⟩
                        cases h2 : sameB z d with
                        | true =>
                          go_wp2
                          go_roundw
                          case rel =>
                            obtain ⟨t1, t2⟩ := HT.out
                            rw [h1, Bool.or_true] at t1
                            rw [h2, Bool.or_true] at t2
                            exact ⟨i + 1, by omega, by go_num, by rw [t1], by rw [t2], hAft⟩
                          case measure => simp [intOf]; omega
                        | false =>
                          go_wp2
                          go_roundw
                          case rel =>
                            obtain ⟨t1, t2⟩ := HT.out
                            rw [h1, Bool.or_true] at t1
                            rw [h2, Bool.or_false] at t2
                            exact ⟨i + 1, by omega, by go_num, by rw [t1], by rw [t2], hAft⟩
                          case measure => simp [intOf]; omega
                      | false =>
                        go_wp2_with fail
                        refine (same8 z d hzl ld _).mono ?_
                        rintro e w8 ⟨rfl, rfl⟩
                        cases h2 : sameB z d with
                        | true =>
                          go_wp2
                          go_roundw
                          case rel =>
                            obtain ⟨t1, t2⟩ := HT.out
                            rw [h1, Bool.or_false] at t1
                            rw [h2, Bool.or_true] at t2
                            exact ⟨i + 1, by omega, by go_num, by rw [t1], by rw [t2], hAft⟩
                          case measure => simp [intOf]; omega
                        | false =>
                          go_wp2
                          go_roundw
                          case rel =>
                            obtain ⟨t1, t2⟩ := HT.out
                            rw [h1, Bool.or_false] at t1
                            rw [h2, Bool.or_false] at t2
                            exact ⟨i + 1, by omega, by go_num, by rw [t1], by rw [t2], hAft⟩
                          case measure => simp [intOf]; omega
                  · obtain rfl : i = q := by omega
                    rw [List.take_of_length_le (by rw [HL.out]; exact Nat.le_refl _)]
                    have a1 : zs.any (sameB · b) = true := List.any_eq_true.2 ⟨b, HM.out.1, sameB_refl nb1⟩
                    have a2 : zs.any (sameB · d) = true := List.any_eq_true.2 ⟨d, HM.out.2.2.1, sameB_refl nd1⟩
                    rw [a1, a2]
                    by_cases hN1 : N = 1
                    · have h1 : (stats zs).n = 1 := by rw [← HN.out]; exact hN1
                      obtain ⟨g1, g2, g3⟩ := HGd.out.one h1
                      have ra := HR.out.1
                      rw [mean_one h1 g1 g2 g3] at ra
                      obtain ⟨ea, _⟩ := ra
                      have hs := sameB_refl g3
                      have hll := g3.1
                      rw [← ea] at hs hll ⊢
                      subst hN1
                      clear g1 g2 g3 h1 ea a1 a2 hNt
                      go_wp2_with fail
                      refine (same8 a a la la _).mono ?_
                      rintro e w8 ⟨rfl, rfl⟩
                      rw [hs]
                      go_wp2
                      go_ret
                      exact ⟨rfl, hAft.below⟩
                    · have hN1t : ((N : Int) == 1) = false := by simp; omega
                      clear a1 a2
                      go_wp2
                      go_ret
                      exact ⟨rfl, hAft.below⟩
end Go.Proofs.Qxb6627523a
