/-
  FnCloseRestoresNamespaces: a test fails, true at once; and the whole walk; and the arguments' reading.
-/
import Derived.Test.Qxb6601967aTop3
import Derived.Deep.Slices
namespace Go.Proofs.Qxb6601967a
set_option linter.unusedVariables false
set_option linter.unusedSimpArgs false
open Go.RowKit Go.Maps Go.Deep

set_option maxHeartbeats 2000000 in
set_option maxRecDepth 100000 in
theorem top3_bad (s0 s3 s5 : ByteArray) (x4 x6 : Bool) (p1 p2 : Option Addr) (n1 c1 n2 c2 : Nat) (l1 l2 : List Nd) (w : World) (h1 : In2 w w.heap.size p1 n1 l1) (h2 : In2 w w.heap.size p2 n2 l2)
    (bad : ¬ (n1 ≤ 4096 ∧ s0.size ≤ 1048576 ∧ s3.size ≤ 1048576 ∧ s5.size ≤ 1048576)) :
    Calls Try.prog 6 #[.string s0, .slice p1 n1 c1, .slice p2 n2 c2, .string s3, .bool x4, .string s5, .bool x6] w fun e w' => e = .returned (.bool true) ∧ Below w.heap.size w w' := by
  have hzz := zzB_any s0 s3 s5 x4 x6 p1 p2 n1 c1 n2 c2 _ l1 l2 w h1 h2
  have BAD : Hid (¬ (n1 ≤ 4096 ∧ s0.size ≤ 1048576 ∧ s3.size ≤ 1048576 ∧ s5.size ≤ 1048576)) := bad
  clear h1 h2 bad
  go_enter Try.func6, Try.ntmps6
  go_wp2_with fail
  refine hzz.mono ?_
  rintro e w' ⟨hbd, hw'⟩
  have hw'' := hw'.symm
  subst hw''
  clear hzz
  rcases hbd with rfl | ⟨rfl, hsum⟩
  · go_wp2_with fail
    go_ret
    exact ⟨rfl, Below.refl _ _⟩
  have HSUM : Hid (n1 + n2 ≤ 1048576) := hsum
  clear hsum
  by_cases k1 : n1 ≤ 4096
  · have t1 : decide ((4096 : Int) < (n1 : Int)) = false := by simp; omega
    by_cases k0 : s0.size ≤ 1048576
    · have t2 : decide ((1048576 : Int) < (s0.size : Int)) = false := by simp; omega
      by_cases k3 : s3.size ≤ 1048576
      · have t3 : decide ((1048576 : Int) < (s3.size : Int)) = false := by simp; omega
        have k5 : ¬ s5.size ≤ 1048576 := fun h => BAD.out ⟨k1, k0, k3, h⟩
        have t4 : decide ((1048576 : Int) < (s5.size : Int)) = true := by simp; omega
        go_wp2_with fail
        go_ret
        exact ⟨rfl, Below.refl _ _⟩
      · have t3 : decide ((1048576 : Int) < (s3.size : Int)) = true := by simp; omega
        go_wp2_with fail
        go_ret
        exact ⟨rfl, Below.refl _ _⟩
    · have t2 : decide ((1048576 : Int) < (s0.size : Int)) = true := by simp; omega
      go_wp2_with fail
      go_ret
      exact ⟨rfl, Below.refl _ _⟩
  · have t1 : decide ((4096 : Int) < (n1 : Int)) = true := by simp; omega
    go_wp2_with fail
    go_ret
    exact ⟨rfl, Below.refl _ _⟩

theorem top3_all (s0 s3 s5 : ByteArray) (x4 x6 : Bool) (p1 p2 : Option Addr) (n1 c1 n2 c2 : Nat) (l1 l2 : List Nd) (w : World) (h1 : In2 w w.heap.size p1 n1 l1) (h2 : In2 w w.heap.size p2 n2 l2) :
    Calls Try.prog 6 #[.string s0, .slice p1 n1 c1, .slice p2 n2 c2, .string s3, .bool x4, .string s5, .bool x6] w fun e w' => e = .returned (.bool true) ∧ Below w.heap.size w w' := by
  by_cases good : n1 ≤ 4096 ∧ s0.size ≤ 1048576 ∧ s3.size ≤ 1048576 ∧ s5.size ≤ 1048576
  · exact top3_good s0 s3 s5 x4 x6 p1 p2 n1 c1 n2 c2 l1 l2 w h1 h2 good.1 good.2.1 good.2.2.1 good.2.2.2
  · exact top3_bad s0 s3 s5 x4 x6 p1 p2 n1 c1 n2 c2 l1 l2 w h1 h2 good

theorem cells108 : Try.prog.cellsOf 108 = 2 := by kernel_rfl
theorem cells9' : Try.prog.cellsOf 9 = 1 := by kernel_rfl

theorem plain_of_cell' {w : World} {a : Addr} {v : Value} (h : w.cell? (a.add 0) = some v) : ∃ b o, a = ⟨b, o, none⟩ := by
  obtain ⟨b, o, s⟩ := a
  obtain rfl : s = none := by simpa [Addr.add] using World.cell?_spot h
  exact ⟨b, o, rfl⟩

set_option maxRecDepth 100000 in
theorem in2_of_trod {H : Type} {enc : TypeId × Value → H} {W : World} {base : Nat} {sp : Nat → Bool} {held : Bool} {fuel : Nat} {a0 : Option Addr} {len cap : Nat} {x : DataW H × List MemPlace}
    (h : DataW.trod enc Try.prog W base sp held fuel 43 [.slice a0 len cap] = some x) : ∃ ds, In2 W W.heap.size a0 len ds := by
  rcases open_slice Try.underlying43 h with ⟨hcs, _⟩ | ⟨a, len', cap', m, n, D, Pl, hcs, _, hl, _, hmm, _, hx⟩
  · simp only [List.cons.injEq, Value.slice.injEq, and_true] at hcs
    obtain ⟨rfl, rfl, rfl⟩ := hcs
    exact ⟨[], rfl, fun h => absurd h (Nat.lt_irrefl 0), fun d hd => by simp at hd⟩
  · simp only [List.cons.injEq, Value.slice.injEq, and_true] at hcs
    obtain ⟨rfl, rfl, rfl⟩ := hcs
    have hlm : len ≤ m := by rw [hmm]; split <;> omega
    have each : ∀ i, i < len → ∃ d : Nd, W.cell? (a.add (i * 2)) = some (.string d.p) ∧ W.cell? (a.add (i * 2 + 1)) = some (.string d.s) ∧ d.p.size ≤ maxLen ∧ d.s.size ≤ maxLen := by
      intro i hi
      obtain ⟨cs', h1, h2⟩ := hx i (by omega)
      rw [cells108] at h1
      obtain ⟨_, hlen, hcell⟩ := World.cells?_some h1
      obtain ⟨xs, k, hk, hxy, _, hxl, hf⟩ := DataW.trod_struct Try.underlying108 h2
      match xs, hxl, cs', hlen with
      | [y0, y1], _, [v0, v1], _ =>
        have z0 : DataW.trod enc Try.prog W base sp held k 9 (([v0, v1].drop 0).take (Try.prog.cellsOf 9)) = some y0 := hf 0 _ rfl
        have z1 : DataW.trod enc Try.prog W base sp held k 9 (([v0, v1].drop 1).take (Try.prog.cellsOf 9)) = some y1 := hf 1 _ rfl
        rw [cells9'] at z0 z1
        simp only [List.drop_zero, List.drop_succ_cons, List.take_succ_cons, List.take_zero] at z0 z1
        have e0 := hcell 0 (by omega)
        have e1 := hcell 1 (by omega)
        rw [add_add] at e0 e1
        obtain ⟨s0, q0, _, l0⟩ := DataW.trod_string Try.underlying9 z0
        obtain ⟨s1, q1, _, l1⟩ := DataW.trod_string Try.underlying9 z1
        simp only [List.cons.injEq, and_true] at q0 q1
        subst q0 q1
        exact ⟨⟨s0, s1⟩, by simpa using e0, by simpa using e1, l0, l1⟩
    let dflt : Nd := ⟨mt, mt⟩
    have hc : ∃ f : Nat → Nd, ∀ i, i < len → (W.cell? (a.add (i * 2)) = some (.string (f i).p) ∧ W.cell? (a.add (i * 2 + 1)) = some (.string (f i).s) ∧ (f i).p.size ≤ maxLen ∧ (f i).s.size ≤ maxLen) := by
      classical
      refine ⟨fun i => if hi : i < len then Classical.choose (each i hi) else dflt, fun i hi => ?_⟩
      simp only [dif_pos hi]
      exact Classical.choose_spec (each i hi)
    obtain ⟨f, hf⟩ := hc
    refine ⟨(List.range len).map f, by simp, fun hpos => ?_, fun d hd => ?_⟩
    · obtain ⟨b, o, rfl⟩ := plain_of_cell' (by simpa using (hf 0 hpos).1)
      refine ⟨b, o, rfl, by simpa [Addr.add] using block_lt_of_cell (hf 0 hpos).1, fun i d hd => ?_⟩
      have hi : i < len := by have := (List.getElem?_eq_some_iff.1 hd).1; simpa using this
      have e : d = f i := by
        simp [hi] at hd
        exact hd.symm
      subst e
      obtain ⟨c0, c1, _⟩ := hf i hi
      simp only [Go.WideShapes.add_plain] at c0 c1
      exact ⟨c0, by rw [Nat.add_assoc]; exact c1⟩
    · simp only [List.mem_map, List.mem_range] at hd
      obtain ⟨i, hi, rfl⟩ := hd
      exact (hf i hi).2.2

end Go.Proofs.Qxb6601967a
