/-
  From an argument's reading to the cells of a slice of declarations.
-/
import Derived.Test.Qxb6601967aTopAll
import Derived.Deep.Slices
namespace Go.Proofs.Qxb6601967a
set_option linter.unusedVariables false
set_option linter.unusedSimpArgs false
open Go.RowKit Go.Maps Go.Deep

theorem cells29 : Try.prog.cellsOf 29 = 4 := by kernel_rfl
theorem cells9 : Try.prog.cellsOf 9 = 1 := by kernel_rfl
theorem cells4 : Try.prog.cellsOf 4 = 1 := by kernel_rfl

theorem plain_of_cell {w : World} {a : Addr} {v : Value} (h : w.cell? (a.add 0) = some v) : ∃ b o, a = ⟨b, o, none⟩ := by
  obtain ⟨b, o, s⟩ := a
  obtain rfl : s = none := by simpa [Addr.add] using World.cell?_spot h
  exact ⟨b, o, rfl⟩

set_option maxRecDepth 100000 in
theorem in4_of_trod {H : Type} {enc : TypeId × Value → H} {W : World} {base : Nat} {sp : Nat → Bool} {held : Bool} {fuel : Nat} {a0 : Option Addr} {len cap : Nat} {x : DataW H × List MemPlace}
    (h : DataW.trod enc Try.prog W base sp held fuel 22 [.slice a0 len cap] = some x) : ∃ ds, In4 W a0 len ds := by
  rcases open_slice Try.underlying22 h with ⟨hcs, _⟩ | ⟨a, len', cap', m, n, D, Pl, hcs, _, hl, _, hmm, _, hx⟩
  · simp only [List.cons.injEq, Value.slice.injEq, and_true] at hcs
    obtain ⟨rfl, rfl, rfl⟩ := hcs
    exact ⟨[], rfl, fun h => absurd h (Nat.lt_irrefl 0), fun d hd => by simp at hd⟩
  · simp only [List.cons.injEq, Value.slice.injEq, and_true] at hcs
    obtain ⟨rfl, rfl, rfl⟩ := hcs
    have hlm : len ≤ m := by rw [hmm]; split <;> omega
    have each : ∀ i, i < len → ∃ d : Dcl, W.cell? (a.add (i * 4)) = some (.string d.p) ∧ W.cell? (a.add (i * 4 + 1)) = some (.string d.s) ∧ W.cell? (a.add (i * 4 + 2)) = some (.string d.r) ∧ W.cell? (a.add (i * 4 + 3)) = some (.bool d.b) ∧
        d.p.size ≤ maxLen ∧ d.s.size ≤ maxLen ∧ d.r.size ≤ maxLen := by
      intro i hi
      obtain ⟨cs', h1, h2⟩ := hx i (by omega)
      rw [cells29] at h1
      obtain ⟨_, hlen, hcell⟩ := World.cells?_some h1
      obtain ⟨xs, k, hk, hxy, _, hxl, hf⟩ := DataW.trod_struct Try.underlying29 h2
      match xs, hxl, cs', hlen with
      | [y0, y1, y2, y3], _, [v0, v1, v2, v3], _ =>
        have z0 : DataW.trod enc Try.prog W base sp held k 9 (([v0, v1, v2, v3].drop 0).take (Try.prog.cellsOf 9)) = some y0 := hf 0 _ rfl
        have z1 : DataW.trod enc Try.prog W base sp held k 9 (([v0, v1, v2, v3].drop 1).take (Try.prog.cellsOf 9)) = some y1 := hf 1 _ rfl
        have z2 : DataW.trod enc Try.prog W base sp held k 9 (([v0, v1, v2, v3].drop 2).take (Try.prog.cellsOf 9)) = some y2 := hf 2 _ rfl
        have z3 : DataW.trod enc Try.prog W base sp held k 4 (([v0, v1, v2, v3].drop 3).take (Try.prog.cellsOf 4)) = some y3 := hf 3 _ rfl
        rw [cells9] at z0 z1 z2
        rw [cells4] at z3
        simp only [List.drop_zero, List.drop_succ_cons, List.take_succ_cons, List.take_zero] at z0 z1 z2 z3
        have e0 := hcell 0 (by omega)
        have e1 := hcell 1 (by omega)
        have e2 := hcell 2 (by omega)
        have e3 := hcell 3 (by omega)
        rw [add_add] at e0 e1 e2 e3
        obtain ⟨s0, q0, _, l0⟩ := DataW.trod_string Try.underlying9 z0
        obtain ⟨s1, q1, _, l1⟩ := DataW.trod_string Try.underlying9 z1
        obtain ⟨s2, q2, _, l2⟩ := DataW.trod_string Try.underlying9 z2
        obtain ⟨s3, q3, _⟩ := DataW.trod_bool Try.underlying4 z3
        simp only [List.cons.injEq, and_true] at q0 q1 q2 q3
        subst q0 q1 q2 q3
        exact ⟨⟨s0, s1, s2, s3⟩, by simpa using e0, by simpa using e1, by simpa using e2, by simpa using e3, l0, l1, l2⟩
    let dflt : Dcl := ⟨mt, mt, mt, false⟩
    have hc : ∃ f : Nat → Dcl, ∀ i, i < len → (W.cell? (a.add (i * 4)) = some (.string (f i).p) ∧ W.cell? (a.add (i * 4 + 1)) = some (.string (f i).s) ∧ W.cell? (a.add (i * 4 + 2)) = some (.string (f i).r) ∧ W.cell? (a.add (i * 4 + 3)) = some (.bool (f i).b) ∧
        (f i).p.size ≤ maxLen ∧ (f i).s.size ≤ maxLen ∧ (f i).r.size ≤ maxLen) := by
      classical
      refine ⟨fun i => if hi : i < len then Classical.choose (each i hi) else dflt, fun i hi => ?_⟩
      simp only [dif_pos hi]
      exact Classical.choose_spec (each i hi)
    obtain ⟨f, hf⟩ := hc
    refine ⟨(List.range len).map f, by simp, fun hpos => ?_, fun d hd => ?_⟩
    · obtain ⟨b, o, rfl⟩ := plain_of_cell (by simpa using (hf 0 hpos).1)
      refine ⟨b, o, rfl, by simpa [Addr.add] using block_lt_of_cell (hf 0 hpos).1, fun i d hd => ?_⟩
      have hi : i < len := by have := (List.getElem?_eq_some_iff.1 hd).1; simpa using this
      have e : d = f i := by
        simp [hi] at hd
        exact hd.symm
      subst e
      obtain ⟨c0, c1, c2, c3, _⟩ := hf i hi
      simp only [Go.WideShapes.add_plain] at c0 c1 c2 c3
      exact ⟨c0, by rw [Nat.add_assoc]; exact c1, by rw [Nat.add_assoc]; exact c2, by rw [Nat.add_assoc]; exact c3⟩
    · simp only [List.mem_map, List.mem_range] at hd
      obtain ⟨i, hi, rfl⟩ := hd
      exact (hf i hi).2.2.2.2

end Go.Proofs.Qxb6601967a
