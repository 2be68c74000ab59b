/-
  Seat b6627422a: the argument '[]Item', opened: what its reading as data says of memory.
-/
import Derived.Test.Qxb6627422aRep
import Derived.ProofKit
import Derived.ShutString
import Derived.ChangeOld
import Derived.Deep.Strs
import Derived.SizedLaws
namespace Go.Proofs.Qxb6627422a
open Go.ChangeShapes Go.WideShapes Go.ChangeAt Go.RowKit Go.Deep

theorem Try.bytes38 : Try.prog.bytesOf 38 = 80 := by kernel_rfl
theorem Try.bytes9 : Try.prog.bytesOf 9 = 16 := by kernel_rfl

theorem weightsAll_mem {H : Type} {P : Program} {e : TypeId} : ∀ {ds : List (DataW H)} {d : DataW H}, d ∈ ds → ∀ x ∈ d.weights P e, x ∈ DataW.weightsAll P e ds
  | d0 :: ds, d, hd, x, hx => by
    simp only [DataW.weightsAll, List.mem_append]
    rcases List.mem_cons.1 hd with rfl | h
    · exact Or.inl hx
    · exact Or.inr (weightsAll_mem h x hx)
  | [], _, hd, _, _ => by simp at hd

theorem str_size (s : ByteArray) : s.data.toList.length = s.size := by
  rw [Array.length_toList]
  rfl

section
variable {H : Type} {enc : TypeId × Value → H} {W : World}

/-- a slice of strings -/
theorem open_notes {fuel : Nat} {v : Value} {x : DataW H × List MemPlace} (h : DataW.trod enc Try.prog W 0 (fun _ => true) true fuel 34 [v] = some x) (hsz : ∀ y ∈ x.1.weights Try.prog 34, y ≤ reachBytes) :
    ∃ na nm nc n, v = .slice na nm nc ∧ NotesAt (fun b => b < W.heap.size) W na nm nc n := by
  rcases open_strs Try.underlying34 Try.underlying9 Try.cells9 h with ⟨hcs, _⟩ | ⟨a, len, cap, m, Sx, hcs, _, hl, _, hmm, rfl, hel⟩
  · obtain rfl : v = .slice none 0 0 := by simpa using hcs
    exact ⟨none, 0, 0, none, rfl, rfl, rfl, rfl⟩
  · obtain rfl : v = .slice (some a) len cap := by simpa using hcs
    simp only [if_true] at hmm
    subst hmm
    simp only [DataW.weights, Try.underlying34] at hsz
    have hb := hsz _ (List.mem_cons_self)
    simp only [List.length_map, List.length_range, Try.bytes9, reachBytes] at hb
    refine ⟨some a, len, m, some ((List.range len).map Sx), rfl, by simp, by simp; omega, a, rfl, ?_, ?_⟩
    · intro hne
      have hlen : 0 < len := by
        cases len with
        | zero => simp at hne
        | succ n => omega
      have := (hel 0 (by omega)).1
      have := World.cell?_spot this
      simpa [Addr.add] using this
    · intro j s hj
      obtain ⟨hlt, hjs⟩ := List.getElem?_eq_some_iff.1 hj
      simp at hlt hjs
      subst hjs
      obtain ⟨hc, _⟩ := hel j (by omega)
      have hsp : a.spot = none := by
        have h0 := (hel 0 (by omega)).1
        have := World.cell?_spot h0
        simpa [Addr.add] using this
      obtain ⟨b, o, sp⟩ := a
      simp only at hsp
      subst hsp
      rw [Addr.add_lit] at hc
      refine ⟨hc, ?_, lt_of_cell hc⟩
      have hw : (Sx j).data.toList.length ∈ DataW.weightsAll (H := H) Try.prog 9 ((List.range len).map fun i => .lit (.string (Sx i).data.toList)) :=
        weightsAll_mem (d := .lit (.string (Sx j).data.toList)) (List.mem_map.2 ⟨j, by simpa using hlt, rfl⟩) _ (by simp [DataW.weights])
      have := hsz _ (List.mem_cons_of_mem _ (List.mem_append_left _ hw))
      rw [str_size] at this
      exact this

/-- one item -/
theorem open_item {fuel : Nat} {cs : List Value} {x : DataW H × List MemPlace} (h : DataW.trod enc Try.prog W 0 (fun _ => true) true fuel 38 cs = some x) (hsz : ∀ y ∈ x.1.weights Try.prog 38, y ≤ reachBytes) :
    ∃ (t : TD) (na : Option Addr) (nm nc : Nat), cs = [.string t.c, .string t.k, .string t.s, .bool t.r, .slice na nm nc] ∧ t.c.size ≤ 140737488351232 ∧ t.k.size ≤ 140737488351232 ∧ t.s.size ≤ 140737488351232 ∧ NotesAt (fun b => b < W.heap.size) W na nm nc t.n := by
  obtain ⟨xs, n, _, rfl, hl, hlen, hf⟩ := DataW.trod_struct Try.underlying38 h
  rw [Try.cells38] at hl
  match cs, hl with
  | [v0, v1, v2, v3, v4], _ =>
    match xs, hlen with
    | [y0, y1, y2, y3, y4], _ =>
      have f0 := hf 0 _ rfl
      have f1 := hf 1 _ rfl
      have f2 := hf 2 _ rfl
      have f3 := hf 3 _ rfl
      have f4 := hf 4 _ rfl
      simp [Try.cells9, Try.cells4, Try.cells34] at f0 f1 f2 f3 f4
      obtain ⟨s0, e0, rfl, _⟩ := DataW.trod_string Try.underlying9 f0
      obtain ⟨s1, e1, rfl, _⟩ := DataW.trod_string Try.underlying9 f1
      obtain ⟨s2, e2, rfl, _⟩ := DataW.trod_string Try.underlying9 f2
      obtain ⟨r, e3, rfl⟩ := DataW.trod_bool Try.underlying4 f3
      simp only [DataW.weights, Try.underlying38, List.map_cons, List.map_nil, DataW.weightsEach, List.append_nil] at hsz
      have hs4 : ∀ y ∈ y4.1.weights Try.prog 34, y ≤ reachBytes := fun y hy => hsz y (by simp [hy])
      obtain ⟨na, nm, nc, nn, rfl, hnt⟩ := open_notes f4 hs4
      simp only [List.cons.injEq, and_true] at e0 e1 e2 e3
      subst e0; subst e1; subst e2; subst e3
      have g0 := hsz s0.data.toList.length (by simp)
      have g1 := hsz s1.data.toList.length (by simp)
      have g2 := hsz s2.data.toList.length (by simp)
      rw [str_size] at g0 g1 g2
      exact ⟨⟨s0, s1, s2, r, nn⟩, na, nm, nc, rfl, g0, g1, g2, hnt⟩

/-- the whole slice -/
theorem open_items {fuel : Nat} {a0 : Option Addr} {len cap : Nat} {x : DataW H × List MemPlace} (h : DataW.trod enc Try.prog W 0 (fun _ => true) true fuel 22 [.slice a0 len cap] = some x) (hsz : ∀ y ∈ x.1.weights Try.prog 22, y ≤ reachBytes) :
    ∃ ts : List TD, ts.length = len ∧ len * 80 ≤ 140737488351232 ∧ (a0 = none → len = 0 ∧ cap = 0) ∧ ListAt (fun b => b < W.heap.size) W a0 ts := by
  rcases open_slice Try.underlying22 h with ⟨hcs, _⟩ | ⟨a, len', cap', m, n, D, Pl, hcs, _, hl, _, hmm, rfl, hel⟩
  · simp at hcs
    obtain ⟨rfl, rfl, rfl⟩ := hcs
    exact ⟨[], rfl, by omega, fun _ => ⟨rfl, rfl⟩, fun i t hi => by simp at hi⟩
  · simp at hcs
    obtain ⟨rfl, rfl, rfl⟩ := hcs
    simp only [if_true] at hmm
    subst hmm
    simp only [DataW.weights, Try.underlying22] at hsz
    have hb := hsz _ (List.mem_cons_self)
    simp only [List.length_map, List.length_range, Try.bytes38, reachBytes] at hb
    have each : ∀ i, i < len → ∃ t : TD, ∃ b o na nm nc, a = ⟨b, o, none⟩ ∧ TodoAt (fun b => b < W.heap.size) W b (o + i * 5) na nm nc t := by
      intro i hi
      obtain ⟨cs', h1, h2⟩ := hel i (by omega)
      rw [Try.cells38] at h1
      have hw : ∀ y ∈ (D i).weights Try.prog 38, y ≤ reachBytes := fun y hy => hsz y (List.mem_cons_of_mem _ (List.mem_append_left _ (weightsAll_mem (d := D i) (List.mem_map.2 ⟨i, by simpa using hi, rfl⟩) y hy)))
      obtain ⟨t, na, nm, nc, rfl, z0, z1, z2, hnt⟩ := open_item h2 hw
      obtain ⟨_, _, hc⟩ := World.cells?_some h1
      have hsp : a.spot = none := by
        obtain ⟨cs0, q1, _⟩ := hel 0 (by omega)
        rw [Try.cells38] at q1
        obtain ⟨_, ql, qc⟩ := World.cells?_some q1
        match cs0, ql with
        | [u0, u1, u2, u3, u4], _ =>
          have := qc 0 (by omega)
          have := World.cell?_spot this
          simpa [Addr.add] using this
      obtain ⟨b, o, sp⟩ := a
      simp only at hsp
      subst hsp
      have c0 := hc 0 (by omega)
      have c1 := hc 1 (by omega)
      have c2 := hc 2 (by omega)
      have c3 := hc 3 (by omega)
      have c4 := hc 4 (by omega)
      simp only [Addr.add_lit, List.getElem?_cons_zero, List.getElem?_cons_succ, Nat.add_zero] at c0 c1 c2 c3 c4
      exact ⟨t, b, o, na, nm, nc, rfl, lt_of_cell c0, z0, z1, z2, c0, c1, c2, c3, c4, hnt⟩
    have inh : Inhabited TD := ⟨⟨ByteArray.empty, ByteArray.empty, ByteArray.empty, false, none⟩⟩
    obtain ⟨T, hT⟩ := choose_lt each
    refine ⟨(List.range len).map T, by simp, by omega, fun h => (by cases h), ?_⟩
    intro i t hi
    obtain ⟨hlt, hit⟩ := List.getElem?_eq_some_iff.1 hi
    simp at hlt hit
    subst hit
    obtain ⟨b, o, na, nm, nc, rfl, q⟩ := hT i hlt
    exact ⟨b, o, na, nm, nc, rfl, q⟩

end
end Go.Proofs.Qxb6627422a
