/-
  Seat b6627523a: FnStatsOfNegatedValuesMirrorsAndAvgKeepsSign (4): the walk.
-/
import Derived.Test.Qxb6627523aW7
import Derived.Test.Qxb6627523aLe
namespace Go.Proofs.Qxb6627523a
open Go.RowKit Fl
theorem unary_neg_float (k : FloatKind) (n : Nat) : Op.unary .neg (.float k n) = pure (.float k (Op.negFloat k n)) := rfl
attribute [local go_sem] run_store_float unary_neg_float

set_option maxHeartbeats 400000 in
theorem bytes11 (f t r : Int) (ao : Option Addr) (n c : Nat) (hn : n ≤ 65536) (w : World) :
    Calls Try.prog 11 #[.int .i64 f, .int .i64 t, .int .i64 r, .slice ao n c] w fun e w' => e = .returned (.bool true) ∧ w' = w := by
  go_enter Try.func11, Try.ntmps11
  go_wp2
  go_ret
  exact ⟨rfl, rfl⟩

theorem neg_flp (z : Nat) : Op.negFloat .f64 z = flp z := rfl

theorem map_vals {w : World} {g : Nat} {zs : List Nat} (h : RowF w g zs.length (fun i => Op.negFloat .f64 (zs.getD i 0)) zs.length) : ValsAt w (some ⟨g, 0, none⟩) (zs.map flp) := by
  intro i z hi
  rw [List.getElem?_map] at hi
  obtain ⟨v, hv, rfl⟩ := Option.map_eq_some_iff.1 hi
  have hlt := (List.getElem?_eq_some_iff.1 hv).1
  refine ⟨g, 0, rfl, ?_⟩
  rw [Nat.zero_add, h.el i hlt, neg_flp]
  simp [List.getD, hv]

/-- what holds behind the two calls of Stats: the two means' cells -/
structure Both (w wr : World) (ao : Option Addr) (zs : List Nat) (h a h2 a2 : Nat) : Prop where
  c0 : wr.cell? ⟨h, 0, none⟩ = some (.float .f64 a)
  e0 : wr.cell? ⟨h2, 0, none⟩ = some (.float .f64 a2)
  vals : ValsAt wr ao zs
  below : Below w.heap.size w wr

theorem Both.make {w wr : World} {ao : Option Addr} {zs : List Nat} {h a b d a2 : Nat} (q : After w wr ao zs h a b d) (v1 v2 : Value) (t : TypeId) :
    Both w (wr.alloc (.cells #[.float .f64 a2, v1, v2] t)) ao zs h a wr.heap.size a2 := by
  have hb : Below wr.heap.size wr (wr.alloc (.cells #[.float .f64 a2, v1, v2] t)) := (Below.refl _ wr).alloc (Nat.le_refl _) _
  have hlt := cell_lt' q.c0
  refine ⟨(hb.cell (p := ⟨h, 0, none⟩) hlt).trans q.c0, ?_, q.vals.move hb, q.below.trans (hb.mono q.below.size)⟩
  have h := heap_alloc_new wr (.cells #[.float .f64 a2, v1, v2] t)
  simp only [World.cell?, h]
  rfl

set_option maxHeartbeats 2000000 in
set_option maxRecDepth 100000 in
theorem mirror_walk (f t r : Int) (ao : Option Addr) (n c : Nat) (zs : List Nat) (hl : zs.length = n) (hn : n ≤ 65536) (hz : ∀ z ∈ zs, z < 18446744073709551616) (w : World) (hv : ValsAt w ao zs) :
    Calls Try.prog 4 #[.int .i64 f, .int .i64 t, .int .i64 r, .slice ao n c] w fun e w' => e = .returned (.bool true) ∧ Below w.heap.size w w' := by
  have HL : Hid (zs.length = n) := hl
  have HZ : Hid (∀ z ∈ zs, z < 18446744073709551616) := hz
  clear hl hz
  obtain ⟨cur, hcur, hmk⟩ := make22 n (by omega)
  have HC : Hid (cur.size = n) := hcur
  clear hcur
  have tn : decide ((65536 : Int) < (n : Int)) = false := by simp; omega
  go_enter Try.func4, Try.ntmps4
  go_wp2_with fail
  refine (bytes11 f t r ao n c hn _).mono ?_
  rintro e w' ⟨rfl, rfl⟩
  go_wp2
  go_loopw [10] (fun i wr => ∃ k : Nat, k ≤ n ∧ i = .int .i64 k ∧ RowF wr w'.heap.size n (fun i => Op.negFloat .f64 (zs.getD i 0)) k ∧ Below w'.heap.size w' wr) (fun i _ => n - (intOf i).toNat)
  case atStart => exact ⟨0, Nat.zero_le _, rfl, by have := RowF.start w' cur (fun i => Op.negFloat .f64 (zs.getD i 0)); rw [HC.out] at this; exact this, (Below.refl _ _).alloc (Nat.le_refl _) _⟩
  case round =>
    rename World => w1
    obtain ⟨k, hk, rfl, hrow, hbel⟩ := hrel
    by_cases hlt : k < n
    · obtain ⟨b, o, rfl, hc⟩ := hv.move hbel k (zs.getD k 0) (by rw [List.getElem?_eq_getElem (by rw [HL.out]; omega)]; simp [List.getD, List.getElem?_eq_getElem (show k < zs.length by rw [HL.out]; omega)])
      obtain ⟨y, hy⟩ := Option.isSome_iff_exists.1 (hrow.room k (by omega))
      have hf := hrow.free
      obtain ⟨z, hz⟩ : ∃ z, z = zs.getD k 0 := ⟨_, rfl⟩
      rw [← hz] at hc
      have HE : Hid (z = zs.getD k 0) := hz
      clear hz hv
      have e1 : (k : Int) < (n : Int) := by omega
      go_wp2
      go_roundw
      case rel =>
        refine ⟨k + 1, by omega, by go_num, ?_, hbel.setCell (Nat.le_refl _) _⟩
        rw [HE.out]
        exact hrow.put (by omega)
      case measure => simp [intOf]; omega
    · obtain rfl : k = n := by omega
      have hvals3 := hv.move hbel
      have hgv : ValsAt w1 (some ⟨w'.heap.size, 0, none⟩) (zs.map flp) := by
        have h := HL.out
        subst h
        exact map_vals hrow
      have HG : Hid ((zs.map flp).length = k ∧ (∀ z ∈ zs.map flp, z < 18446744073709551616)) := by
        refine ⟨by rw [List.length_map]; exact HL.out, fun z hz => ?_⟩
        obtain ⟨v, hv, rfl⟩ := List.mem_map.1 hz
        exact flp_lt (HZ.out v hv)
      have hrblk := hrow.blk
      clear hrow hv
      go_wp2_with fail
      refine (stats7 f t r ao k c zs HL.out (by omega) HZ.out _ hvals3).mono ?_
      rintro e w4 ⟨a, b, d, rfl, ra, rb, rd, hb4⟩
      have z3 := hbel.size
      have z4 := hb4.size
      have hgv4 : ValsAt (w4.alloc (.cells #[.float .f64 a, .float .f64 b, .float .f64 d] 27)) (some ⟨w'.heap.size, 0, none⟩) (zs.map flp) :=
        (hgv.move hb4).move ((Below.refl _ w4).alloc (Nat.le_refl _) _)
      have hvals4 : ValsAt (w4.alloc (.cells #[.float .f64 a, .float .f64 b, .float .f64 d] 27)) ao zs := (hvals3.move hb4).move ((Below.refl _ w4).alloc (Nat.le_refl _) _)
      go_wp2_with fail
      refine (stats7 f t r _ k k (zs.map flp) HG.out.1 (by omega) HG.out.2 _ hgv4).mono ?_
      rintro e w5 ⟨a2, b2, d2, rfl, ra2, rb2, rd2, hb5⟩
      simp only [World.size_alloc] at hb5
      obtain ⟨p0, p1, p2, p3⟩ := box3 hb5
      have hAft : After w' w5 ao zs w4.heap.size a b d :=
        ⟨p0, p1, p2, hvals4.move (by simpa using hb5), ((hbel.trans (hb4.mono z3)).alloc (by omega) _).trans (hb5.mono (by omega))⟩
      have hnn : (stats zs).n ≤ 65536 := by
        have := stats_n zs k
        rw [List.take_of_length_le (by rw [HL.out]; exact Nat.le_refl _)] at this
        omega
      have hE := ends HZ.out hnn ra rb rd ra2 rb2 rd2
      have HE : Hid (Ends zs a b d a2 b2 d2) := hE
      have s1 : sameB b2 (Op.negFloat .f64 d) = true := hE.min
      have s2 : sameB d2 (Op.negFloat .f64 b) = true := hE.max
      have s3 : equalB a2 (Op.negFloat .f64 a) = true := hE.avg
      have la := ra.lt
      have la' : Op.negFloat .f64 a < 18446744073709551616 := flp_lt ra.lt
      have lb' : Op.negFloat .f64 b < 18446744073709551616 := flp_lt rb.lt
      have ld' : Op.negFloat .f64 d < 18446744073709551616 := flp_lt rd.lt
      have la2 := ra2.lt
      have lb2 := rb2.lt
      have ld2 := rd2.lt
      clear hgv hvals3 hgv4 hvals4 hb4 hbel hb5 ra rb rd ra2 rb2 rd2 hrblk hmk hE
      go_wp2_with fail
      refine (same8 b2 _ lb2 ld' _).mono ?_
      rintro e w6 ⟨rfl, rfl⟩
      rw [s1]
      go_wp2_with fail
      refine (same8 d2 _ ld2 lb' _).mono ?_
      rintro e w6 ⟨rfl, rfl⟩
      rw [s2]
      go_wp2_with fail
      refine (equal12 a2 _ la2 la' _).mono ?_
      rintro e w6 ⟨rfl, rfl⟩
      rw [s3]
      clear s1 s2 s3 lb2 ld2 la' lb' ld' p0 p1 p2
      go_wp2
      go_loopw [13, 14, 15, 16] (fun cn ps ng i wr => ∃ q : Nat, q ≤ k ∧ i = .int .i64 q ∧ cn = .int .i64 ((stats (zs.take q)).n : Int) ∧ ps = .int .i64 ((many above (zs.take q) : Nat) : Int) ∧ ng = .int .i64 ((many under (zs.take q) : Nat) : Int) ∧ Both w' wr ao zs w4.heap.size a w5.heap.size a2) (fun _ _ _ i _ => k - (intOf i).toNat)
      case atStart => exact ⟨0, Nat.zero_le _, rfl, rfl, rfl, rfl, Both.make hAft _ _ _⟩
      case round =>
        clear hAft
        rename World => w7
        obtain ⟨q, hq, rfl, rfl, rfl, rfl, hBoth⟩ := hrel
        have hcn := stats_n zs q
        have hcp := many_le above (zs.take q)
        have hcu := many_le under (zs.take q)
        by_cases hlt3 : q < k
        · have hqz : q < zs.length := by rw [HL.out]; exact hlt3
          obtain ⟨b0, o0, rfl, hc⟩ := hBoth.vals q zs[q] (List.getElem?_eq_getElem hqz)
          have t1 := take_n zs hqz
          have t2 := many_take above zs hqz
          have t3 := many_take under zs hqz
          have hzl := HZ.out _ (List.getElem_mem hqz)
          obtain ⟨z, hz⟩ : ∃ z, z = zs[q] := ⟨_, rfl⟩
          rw [← hz] at hc t1 t2 t3 hzl
          obtain ⟨N, hN⟩ : ∃ N, N = (stats (zs.take q)).n := ⟨_, rfl⟩
          obtain ⟨P, hP⟩ : ∃ P, P = many above (zs.take q) := ⟨_, rfl⟩
          obtain ⟨M, hM⟩ : ∃ M, M = many under (zs.take q) := ⟨_, rfl⟩
          rw [← hN] at hcn hcp hcu t1 ⊢
          rw [← hP] at hcp t2 ⊢
          rw [← hM] at hcu t3 ⊢
          have HT : Hid ((stats (zs.take (q + 1))).n = (if nan z then N else N + 1) ∧ many above (zs.take (q + 1)) = (if nan z then P else if above z then P + 1 else P) ∧ many under (zs.take (q + 1)) = (if nan z then M else if under z then M + 1 else M)) := ⟨t1, t2, t3⟩
          clear t1 t2 t3 hz hN hP hM
          go_wp2_with fail
          refine (isNaN9 z _).mono ?_
          rintro e w8 ⟨rfl, rfl⟩
          cases hnz : nan z with
          | true =>
            go_wp2
            go_roundw
            case rel =>
              obtain ⟨t1, t2, t3⟩ := HT.out
              rw [if_pos hnz] at t1 t2 t3
              exact ⟨q + 1, by omega, by go_num, by rw [t1], by rw [t2], by rw [t3], hBoth⟩
            case measure => simp [intOf]; omega
          | false =>
            have nz1 := num_of hzl hnz
            have g1 : (FloatKind.f64.format.order z 0 == some .gt) = above z := gt_test nz1
            have g2 : (FloatKind.f64.format.order z 0 == some .lt) = under z := lt_test nz1
            cases h1 : above z with
            | true =>
              rw [h1] at g1
              cases h2 : under z with
              | true =>
                rw [h2] at g2
                go_wp2
                go_roundw
                case rel =>
                  obtain ⟨t1, t2, t3⟩ := HT.out
                  rw [if_neg (by simp [hnz])] at t1 t2 t3
                  rw [if_pos h1] at t2
                  rw [if_pos h2] at t3
                  exact ⟨q + 1, by omega, by go_num, by rw [t1]; go_num, by rw [t2]; go_num, by rw [t3]; go_num, hBoth⟩
                case measure => simp [intOf]; omega
              | false =>
                rw [h2] at g2
                go_wp2
                go_roundw
                case rel =>
                  obtain ⟨t1, t2, t3⟩ := HT.out
                  rw [if_neg (by simp [hnz])] at t1 t2 t3
                  rw [if_pos h1] at t2
                  rw [if_neg (by simp [h2])] at t3
                  exact ⟨q + 1, by omega, by go_num, by rw [t1]; go_num, by rw [t2]; go_num, by rw [t3], hBoth⟩
                case measure => simp [intOf]; omega
            | false =>
              rw [h1] at g1
              cases h2 : under z with
              | true =>
                rw [h2] at g2
                go_wp2
                go_roundw
                case rel =>
                  obtain ⟨t1, t2, t3⟩ := HT.out
                  rw [if_neg (by simp [hnz])] at t1 t2 t3
                  rw [if_neg (by simp [h1])] at t2
                  rw [if_pos h2] at t3
                  exact ⟨q + 1, by omega, by go_num, by rw [t1]; go_num, by rw [t2], by rw [t3]; go_num, hBoth⟩
                case measure => simp [intOf]; omega
              | false =>
                rw [h2] at g2
                go_wp2
                go_roundw
                case rel =>
                  obtain ⟨t1, t2, t3⟩ := HT.out
                  rw [if_neg (by simp [hnz])] at t1 t2 t3
                  rw [if_neg (by simp [h1])] at t2
                  rw [if_neg (by simp [h2])] at t3
                  exact ⟨q + 1, by omega, by go_num, by rw [t1]; go_num, by rw [t2], by rw [t3], hBoth⟩
                case measure => simp [intOf]; omega
        · obtain rfl : q = k := by omega
          have htake : zs.take q = zs := List.take_of_length_le (by rw [HL.out]; exact Nat.le_refl _)
          rw [htake] at hcn hcp hcu ⊢
          clear htake
          obtain ⟨N, hN⟩ : ∃ N, N = (stats zs).n := ⟨_, rfl⟩
          obtain ⟨P, hP⟩ : ∃ P, P = many above zs := ⟨_, rfl⟩
          obtain ⟨M, hM⟩ : ∃ M, M = many under zs := ⟨_, rfl⟩
          rw [← hN] at hcn hcp hcu hnn ⊢
          rw [← hP] at hcp ⊢
          rw [← hM] at hcu ⊢
          have HN : Hid (N = (stats zs).n ∧ P = many above zs ∧ M = many under zs) := ⟨hN, hP, hM⟩
          clear hN hP hM
          have c0 := hBoth.c0
          have e0 := hBoth.e0
          by_cases hN0 : N = 0
          · obtain ⟨n1, n2⟩ := HE.out.none (by rw [← HN.out.1]; exact hN0)
            subst hN0
            go_wp2_with fail
            refine (isNaN9 a _).mono ?_
            rintro e w8 ⟨rfl, rfl⟩
            rw [n1]
            go_wp2_with fail
            refine (isNaN9 a2 _).mono ?_
            rintro e w8 ⟨rfl, rfl⟩
            rw [n2]
            go_wp2
            go_ret
            exact ⟨rfl, hBoth.below⟩
          · have hNt : ((N : Int) == 0) = false := by simp; omega
            have hz0 : (stats zs).n ≠ 0 := by rw [← HN.out.1]; exact hN0
            by_cases hPN : P = N
            · have hPt : ((P : Int) == (N : Int)) = true := by simp; omega
              obtain ⟨x1, x2, x3, x4⟩ := HE.out.pos hz0 fun z hz hnz => by
                have := many_all (p := above) (zs := zs) (by rw [← HN.out.1, ← HN.out.2.1]; exact hPN) z hz hnz
                unfold above at this
                simpa using this
              have g1 : (FloatKind.f64.format.order a 0 == some .gt) = true := (gt_test x1).trans (by unfold above; exact decide_eq_true x3)
              have g2 : (FloatKind.f64.format.order a2 0 == some .lt) = true := (lt_test x2).trans (by unfold under; exact decide_eq_true x4)
              clear x1 x2 x3 x4 hz0
              go_wp2
              go_ret
              exact ⟨rfl, hBoth.below⟩
            · have hPt : ((P : Int) == (N : Int)) = false := by simp; omega
              by_cases hMN : M = N
              · have hMt : ((M : Int) == (N : Int)) = true := by simp; omega
                obtain ⟨x1, x2, x3, x4⟩ := HE.out.neg hz0 fun z hz hnz => by
                  have := many_all (p := under) (zs := zs) (by rw [← HN.out.1, ← HN.out.2.2]; exact hMN) z hz hnz
                  unfold under at this
                  simpa using this
                have g1 : (FloatKind.f64.format.order a 0 == some .lt) = true := (lt_test x1).trans (by unfold under; exact decide_eq_true x3)
                have g2 : (FloatKind.f64.format.order a2 0 == some .gt) = true := (gt_test x2).trans (by unfold above; exact decide_eq_true x4)
                clear x1 x2 x3 x4 hz0
                go_wp2
                go_ret
                exact ⟨rfl, hBoth.below⟩
              · have hMt : ((M : Int) == (N : Int)) = false := by simp; omega
                clear hz0
                go_wp2
                go_ret
                exact ⟨rfl, hBoth.below⟩
end Go.Proofs.Qxb6627523a
