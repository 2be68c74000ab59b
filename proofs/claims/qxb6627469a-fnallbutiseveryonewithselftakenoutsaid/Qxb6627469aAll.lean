/-
  Seat b6627469a: AllBut (function 5) by its contract.
-/
import Derived.Test.Qxb6627469aRows
import Derived.WalkKit
import Derived.WalkSpells
import Derived.WalkLawsBesides
namespace Go.Proofs.Qxb6627469a
open Go.RowKit

theorem Try.info3 : (Try.prog.info? 3).map (fun i => (i.zero, i.size, i.bytes)) = some (some (.int .i64 0), 1, 8) := by kernel_rfl

/-! ### the plain law -/

/-- how many of 0 .. k-1 are not self -/
def cnt (self : Int) (k : Nat) : Nat := if 0 ≤ self ∧ self < k then k - 1 else k
/-- the i-th of them -/
def el (self : Int) (i : Nat) : Int := if 0 ≤ self ∧ self ≤ i then (i : Int) + 1 else i
def lst (self : Int) (k : Nat) : List Int := (List.range (cnt self k)).map (el self)

theorem cnt_le (self : Int) (k : Nat) : cnt self k ≤ k := by unfold cnt; split <;> omega
theorem cnt_hit {self : Int} {k : Nat} (h : (k : Int) = self) : cnt self (k + 1) = cnt self k := by
  unfold cnt
  rw [if_pos (by omega), if_neg (by omega)]
  omega
theorem cnt_miss {self : Int} {k : Nat} (h : ¬ (k : Int) = self) : cnt self (k + 1) = cnt self k + 1 := by
  unfold cnt
  by_cases c : 0 ≤ self ∧ self < k
  · rw [if_pos (by omega), if_pos c]
    omega
  · rw [if_neg (by omega), if_neg c]
theorem el_cnt {self : Int} {k : Nat} (h : ¬ (k : Int) = self) : el self (cnt self k) = k := by
  unfold el cnt
  by_cases c : 0 ≤ self ∧ self < k
  · rw [if_pos c, if_pos (by omega)]
    omega
  · rw [if_neg c, if_neg (by omega)]
theorem lst_hit {self : Int} {k : Nat} (h : (k : Int) = self) : lst self (k + 1) = lst self k := by
  unfold lst
  rw [cnt_hit h]
theorem lst_miss {self : Int} {k : Nat} (h : ¬ (k : Int) = self) : lst self (k + 1) = lst self k ++ [(k : Int)] := by
  unfold lst
  rw [cnt_miss h, List.range_succ, List.map_append, List.map_cons, List.map_nil, el_cnt h]

/-! ### the walk -/

theorem make22 (n : Nat) (hn : n ≤ 65537) :
    ∃ cur : Array Value, cur.size = n ∧ ∀ w, (Instr.makeSlice 22 (.int .i64 0) (.int .i64 (n : Int))).run Try.prog w = .ok (.slice (some ⟨w.heap.size, 0, none⟩) 0 n) (w.alloc (.cells cur 3)) := by
  obtain ⟨i, hi, hz0, hz1, hz2⟩ := info_parts Try.info3
  refine ⟨madeCells (Value.int .i64 0).cells n, size_madeCells _ _, fun w => ?_⟩
  have := run_make (P := Try.prog) w 22 3 i _ Try.underlying22 hi hz0 .i64 .i64 0 n (by omega) (by omega) (by rw [hz2]; omega) (by omega)
  simpa [hz1] using this

theorem owns_start (w : World) (cur : Array Value) (n : Nat) (hn : n ≤ 65537) (hc : cur.size = n) :
    (w.alloc (.cells cur 3)).ownsRow w.heap.size 3 1 (.slice (some ⟨w.heap.size, 0, none⟩) 0 n) 0 [] :=
  ⟨rfl, Or.inr ⟨w.heap.size, n, cur, rfl, Nat.le_refl _, heap_alloc_new _ _, by omega, by unfold maxLen; omega, by omega, rfl⟩⟩

set_option maxHeartbeats 400000 in
theorem allBut_any (n : Nat) (self : Int) (w : World) (hn : n ≤ 65537) :
    Calls Try.prog 5 #[.int .i64 (n : Int), .int .i64 self] w fun e w' => ∃ g, e = .returned (.slice (some ⟨g, 0, none⟩) (cnt self n) n) ∧ w.heap.size ≤ g ∧ g < w'.heap.size ∧
      (∀ i, i < cnt self n → w'.cell? ⟨g, i, none⟩ = some (.int .i64 (el self i))) ∧ Below w.heap.size w w' := by
  obtain ⟨i0, hi, hz0, hz1, hz2⟩ := info_parts Try.info3
  obtain ⟨cur, hcur, hmk⟩ := make22 n hn
  have HC : Hid (cur.size = n) := hcur
  clear hcur
  go_enter Try.func5, Try.ntmps5
  go_wp2
  go_loopw [5, 10] (fun v i wr => ∃ k : Nat, k ≤ n ∧ i = .int .i64 k ∧ v = .slice (some ⟨w.heap.size, 0, none⟩) (cnt self k) n ∧
      wr.ownsRow w.heap.size 3 1 (.slice (some ⟨w.heap.size, 0, none⟩) (cnt self k) n) (cnt self k) ((lst self k).map (Value.int .i64)) ∧ Below w.heap.size w wr) (fun _ i _ => n - (intOf i).toNat)
  case atStart =>
    have c0 : cnt self 0 = 0 := by unfold cnt; split <;> omega
    refine ⟨0, Nat.zero_le _, rfl, by rw [c0], ?_, (Below.refl _ _).alloc (Nat.le_refl _) _⟩
    unfold lst
    rw [c0]
    exact owns_start w cur n hn HC.out
  case round =>
    obtain ⟨k, hk, rfl, rfl, hown, hbel⟩ := hrel
    have hck := cnt_le self k
    by_cases hlt : k < n
    · by_cases hself : (k : Int) = self
      · have HS : Hid ((k : Int) = self) := hself
        have ht : ((k : Int) != self) = false := by simp [hself]
        clear hself
        go_wp2
        go_roundw
        case rel => exact ⟨k + 1, by omega, by go_num, by rw [cnt_hit HS.out], by rw [cnt_hit HS.out, lst_hit HS.out]; exact hown, hbel⟩
        case measure => simp [intOf]; omega
      · have ht : ((k : Int) != self) = true := by simp [hself]
        go_wp2_with (at_builtin; refine wpList_append_fits _ rfl (.tmp 16) (.tmp 18) 22 rfl w.heap.size 3 i0 1 Try.underlying22 hi hz1 w.heap.size (cnt self k) n _ rfl (hown.alloc _) ⟨wr.heap.size, 0, none⟩ 1 1 [.int .i64 (k : Int)] rfl rfl ?c1 ?c2 ?c3 ?_)
        case c1 => exact cell_one_new _ _ _
        case c2 => intro u hu; simp at hu; subst hu; rfl
        case c3 => omega
        intro w1 hown1 hgrow
        go_wp2
        go_roundw
        case rel =>
          refine ⟨k + 1, by omega, by go_num, by rw [cnt_miss hself], ?_, ?_⟩
          · rw [cnt_miss hself, lst_miss hself, List.map_append]
            exact hown1
          · have := hbel.size
            exact (hbel.alloc this _).grown hgrow (by simp; omega) (fun j hj => by cases hj; exact Nat.le_refl _)
        case measure => simp [intOf]; omega
    · obtain rfl : k = n := by omega
      go_wp2
      go_ret
      refine ⟨_, rfl, Nat.le_refl _, ?_, ?_, hbel⟩
      · obtain ⟨_, h | ⟨g, cap, cur', hv, hg, hh, _⟩⟩ := hown
        · simp at h
        · cases hv
          exact (Array.getElem?_eq_some_iff.1 hh).1
      · intro i hi
        obtain ⟨_, h | ⟨g, cap, cur', hv, hg, hh, _, _, _, htk⟩⟩ := hown
        · simp at h
        · cases hv
          have : (cur'.toList.take (cnt self k * 1))[i]? = some (.int .i64 (el self i)) := by
            rw [htk]
            simp [lst, hi]
          rw [Nat.mul_one, List.getElem?_take, if_pos hi] at this
          simp only [World.cell?, hh]
          simpa using this
end Go.Proofs.Qxb6627469a
