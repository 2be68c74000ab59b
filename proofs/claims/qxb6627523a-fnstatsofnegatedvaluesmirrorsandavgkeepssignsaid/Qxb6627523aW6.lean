/-
  Seat b6627523a: Series.Stats (7) by its contract.
-/
import Derived.Test.Qxb6627523aW5
namespace Go.Proofs.Qxb6627523a
open Go.RowKit Fl
attribute [local go_sem] run_store_float

theorem step_n (T : Tot) (v : Nat) : (T.step v).n ≤ T.n + 1 := by
  unfold Tot.step Tot.take
  by_cases h1 : nan v = true
  · rw [if_pos h1]; omega
  · rw [if_neg h1]
    by_cases h2 : T.n = 0
    · rw [if_pos h2]; show 1 ≤ _; omega
    · rw [if_neg h2]; exact Nat.le_refl _

theorem stats_n (zs : List Nat) (k : Nat) : (stats (zs.take k)).n ≤ k := by
  induction k with
  | zero => simp [stats, Tot.zero]
  | succ k ih =>
    by_cases h : k < zs.length
    · rw [List.take_succ_eq_append_getElem h, stats_snoc]
      have := step_n (stats (zs.take k)) zs[k]
      omega
    · rw [List.take_of_length_le (by omega)] at ih ⊢
      omega

theorem stats_ok (zs : List Nat) (hz : ∀ z ∈ zs, z < 18446744073709551616) (k : Nat) : (stats (zs.take k)).Ok := by
  induction k with
  | zero => intro h; simp [stats, Tot.zero] at h
  | succ k ih =>
    by_cases h : k < zs.length
    · rw [List.take_succ_eq_append_getElem h, stats_snoc]
      exact Tot.step_ok ih (hz _ (List.getElem_mem h))
    · rw [List.take_of_length_le (by omega)] at ih ⊢
      exact ih

/-- the values in memory -/
def ValsAt (w : World) (ao : Option Addr) (zs : List Nat) : Prop :=
  ∀ i z, zs[i]? = some z → ∃ b o, ao = some ⟨b, o, none⟩ ∧ w.cell? ⟨b, o + i, none⟩ = some (.float .f64 z)

theorem OffG.below {g B : Nat} {w w' : World} (h : OffG g w w') (hB : B ≤ g) : Below B w w' :=
  ⟨h.os, h.tape, h.output, by rw [h.size]; exact Nat.le_refl _, fun k hk => h.block k (by omega)⟩

/-- what holds at the head of a round -/
structure Run7 (w wr : World) (zs : List Nat) (k : Nat) : Prop where
  acc : AccAt wr (w.heap.size + 1 + 1) (stats (zs.take k))
  res : wr.heap[w.heap.size + 1]? = some (.cells #[.float .f64 0, .float .f64 0, .float .f64 0] 27)
  size : w.heap.size + 1 + 1 < wr.heap.size
  below : Below w.heap.size w wr

theorem run7_start (w : World) (zs : List Nat) (o : Obj) :
    Run7 w (((w.alloc o).alloc (.cells #[.float .f64 0, .float .f64 0, .float .f64 0] 27)).alloc (.cells #[.float .f64 0, .float .f64 0, .int .i64 0, .float .f64 0, .float .f64 0] 37)) zs 0 := by
  have e1 : (w.alloc o).heap.size = w.heap.size + 1 := by simp
  have e2 : ((w.alloc o).alloc (.cells #[.float .f64 0, .float .f64 0, .float .f64 0] 27)).heap.size = w.heap.size + 1 + 1 := by simp
  have h := heap_alloc_new ((w.alloc o).alloc (.cells #[.float .f64 0, .float .f64 0, .float .f64 0] 27)) (.cells #[.float .f64 0, .float .f64 0, .int .i64 0, .float .f64 0, .float .f64 0] 37)
  rw [e2] at h
  have h2 := heap_alloc_new (w.alloc o) (.cells #[.float .f64 0, .float .f64 0, .float .f64 0] 27)
  rw [e1] at h2
  have num0 : Num 0 := ⟨by omega, by rw [rg_zero]; omega⟩
  refine ⟨⟨⟨0, ?_, rfl, num0⟩, ⟨0, ?_, rfl, num0⟩, ?_, ?_, ?_, fun x => ?_⟩, ?_, ?_, ?_⟩
  · simp only [World.cell?, h]; rfl
  · simp only [World.cell?, h]; rfl
  · simp only [World.cell?, h]; rfl
  · simp only [World.cell?, h]; rfl
  · simp only [World.cell?, h]; rfl
  · simp only [World.frozen?, h]; simp
  · rw [Below.heap_alloc _ _ _ (by rw [e2]; omega)]
    exact h2
  · simp
  · exact (((Below.refl _ w).alloc (Nat.le_refl _) _).alloc (by simp) _).alloc (by simp; omega) _

theorem Run7.step {w wr w1 : World} {zs : List Nat} {k : Nat} (h : Run7 w wr zs k) (hk : k < zs.length) (ha : AccAt w1 (w.heap.size + 1 + 1) ((stats (zs.take k)).step zs[k])) (ho : OffG (w.heap.size + 1 + 1) wr w1) : Run7 w w1 zs (k + 1) := by
  refine ⟨?_, (ho.block _ (by omega)).trans h.res, by rw [ho.size]; exact h.size, h.below.trans (ho.below (by omega))⟩
  rw [List.take_succ_eq_append_getElem hk, stats_snoc]
  exact ha

set_option maxHeartbeats 1000000 in
theorem stats7 (f t r : Int) (ao : Option Addr) (n c : Nat) (zs : List Nat) (hl : zs.length = n) (hn : n ≤ 1048576) (hz : ∀ z ∈ zs, z < 18446744073709551616) (w : World) (hv : ValsAt w ao zs) :
    Calls Try.prog 7 #[.agg #[.int .i64 f, .int .i64 t, .int .i64 r, .slice ao n c]] w fun e w' => ∃ a b d, e = .returned (.agg #[.float .f64 a, .float .f64 b, .float .f64 d]) ∧
      RelO (meanO (stats zs)) a ∧ RelO (resMin (stats zs)) b ∧ RelO (resMax (stats zs)) d ∧ Below w.heap.size w w' := by
  have HL : Hid (zs.length = n) := hl
  have HZ : Hid (∀ z ∈ zs, z < 18446744073709551616) := hz
  clear hl hz
  go_enter Try.func7, Try.ntmps7
  go_wp2
  go_loopw [9] (fun i wr => ∃ k : Nat, k ≤ n ∧ i = .int .i64 k ∧ Run7 w wr zs k) (fun i _ => n - (intOf i).toNat)
  case atStart => exact ⟨0, Nat.zero_le _, rfl, run7_start w zs _⟩
  case round =>
    obtain ⟨k, hk, rfl, hrun⟩ := hrel
    have hcnt := stats_n zs k
    have hok := stats_ok zs HZ.out k
    have HK : Hid ((stats (zs.take k)).Ok) := hok
    clear hok
    by_cases hlt : k < n
    · have hkz : k < zs.length := by rw [HL.out]; exact hlt
      obtain ⟨b, o, rfl, hc⟩ := hv k zs[k] (List.getElem?_eq_getElem hkz)
      have hzk := HZ.out zs[k] (List.getElem_mem hkz)
      have hb : b < w.heap.size := by
        simp only [World.cell?] at hc
        by_cases h : b < w.heap.size
        · exact h
        · rw [Array.getElem?_eq_none (by omega)] at hc; cases hc
      have hc' := (hrun.below.cell (p := ⟨b, o + k, none⟩) hb).trans hc
      obtain ⟨z, hz⟩ : ∃ z, z = zs[k] := ⟨_, rfl⟩
      rw [← hz] at hc' hzk
      have HE : Hid (z = zs[k]) := hz
      clear hz hc hv
      go_wp2_with fail
      refine (sadd _ z (stats (zs.take k)) hzk (by omega) HK.out _ hrun.acc).mono ?_
      rintro e w1 ⟨rfl, ha, ho⟩
      rw [HE.out] at ha
      have hnext := hrun.step hkz ha ho
      clear hrun ha ho hc' hcnt
      go_wp2
      go_roundw
      case rel => exact ⟨k + 1, by omega, by go_num, hnext⟩
      case measure => simp [intOf]; omega
    · obtain rfl : k = n := by omega
      have hz0 := hrun.size
      rw [List.take_of_length_le (by rw [HL.out]; exact Nat.le_refl _)] at hcnt
      have hacc := hrun.acc
      have hK := HK.out
      rw [List.take_of_length_le (by rw [HL.out]; exact Nat.le_refl _)] at hacc hK
      go_wp2_with fail
      refine (result_any _ (stats zs) (by omega) hK _ hz0 hacc).mono ?_
      rintro e w1 ⟨a, b, d, rfl, h1, h2, h3, hb1⟩
      have hres := (hb1.block (w.heap.size + 1) (by omega)).trans hrun.res
      have r5 : w1.cell? ⟨w.heap.size + 1, 0, none⟩ = some (.float .f64 0) := by simp only [World.cell?, hres]; rfl
      have r6 : w1.cell? ⟨w.heap.size + 1, 1, none⟩ = some (.float .f64 0) := by simp only [World.cell?, hres]; rfl
      have r7 : w1.cell? ⟨w.heap.size + 1, 2, none⟩ = some (.float .f64 0) := by simp only [World.cell?, hres]; rfl
      have r8 : ∀ x, w1.frozen? ⟨w.heap.size + 1, x, none⟩ = false := fun x => by simp [World.frozen?, hres]
      have hB : Below w.heap.size w w1 := hrun.below.trans (hb1.mono (by omega))
      clear hres hrun hacc hb1 hcnt
      go_wp2
      refine bodyPost_ret (v := .agg #[.float .f64 a, .float .f64 b, .float .f64 d]) (by simp [results, Try.results7, go_sem, r5, r6, r7]) rfl ⟨a, b, d, rfl, h1, h2, h3, ?_⟩
      exact ((hB.setCell (by simp) _).setCell (by simp) _).setCell (by simp) _
end Go.Proofs.Qxb6627523a
