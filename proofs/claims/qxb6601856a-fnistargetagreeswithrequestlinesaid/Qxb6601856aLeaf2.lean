/-
  More leaves: isToken at upper-case letters, hsEq at equal slices, hsClone.
-/
import Derived.Test.Qxb6601856aLeaf
namespace Go.Proofs.Qxb6601856a
set_option linter.unusedVariables false
set_option linter.unusedSimpArgs false
open Go.RowKit

/-! ### isToken at capital letters -/
set_option maxHeartbeats 800000 in
theorem isToken_caps (b o n c : Nat) (xs : List Int) (w : World) (hl : xs.length = n) (hn0 : 0 < n) (hn : n ≤ 1048576) (hcaps : ∀ x ∈ xs, 65 ≤ x ∧ x ≤ 90)
    (hc : ∀ i, i < n → w.cell? ⟨b, o + i, none⟩ = some (.int .u8 (xs.getD i 0))) :
    Calls Try.prog 26 #[.slice (some ⟨b, o, none⟩) n c] w fun e w' => e = .returned (.bool true) ∧ w' = w := by
  have hpos : (0 : Int) < (n : Int) := by omega
  go_enter Try.func26, Try.ntmps26
  go_wp2
  go_loop [3, 4, 7] (fun _ _ i => ∃ k : Nat, k ≤ n ∧ i = .int .i64 k) (fun _ _ i => n - (intOf i).toNat)
  case atStart => exact ⟨0, Nat.zero_le _, rfl⟩
  case round =>
    obtain ⟨k, hk, rfl⟩ := hrel
    by_cases hlt : k < n
    · have hcell := hc k hlt
      have hx : xs.getD k 0 = xs[k]'(by omega) := by simp [List.getD, show k < xs.length by omega]
      have hb : 65 ≤ xs.getD k 0 ∧ xs.getD k 0 ≤ 90 := by rw [hx]; exact hcaps _ (List.getElem_mem _)
      clear hx hc hcaps
      generalize xs.getD k 0 = x at *
      obtain ⟨hb1, hb2⟩ := hb
      go_wp2
      go_round
      case rel => exact ⟨k + 1, by omega, by go_num⟩
      case measure => simp [intOf]; omega
    · have hkn : k = n := by omega
      subst hkn
      go_wp2
      go_ret
      exact ⟨rfl, rfl⟩

/-! ### hsEq at two slices that hold the same -/
set_option maxHeartbeats 800000 in
theorem hsEq_same (b1 o1 b2 o2 n c1 c2 : Nat) (xs : List Int) (w : World) (hn : n ≤ 1048576)
    (h1 : ∀ i, i < n → w.cell? ⟨b1, o1 + i, none⟩ = some (.int .u8 (xs.getD i 0))) (h2 : ∀ i, i < n → w.cell? ⟨b2, o2 + i, none⟩ = some (.int .u8 (xs.getD i 0))) :
    Calls Try.prog 12 #[.slice (some ⟨b1, o1, none⟩) n c1, .slice (some ⟨b2, o2, none⟩) n c2] w fun e w' => e = .returned (.bool true) ∧ ∃ q, w' = w.drewN q := by
  have hnn : ((n : Int) == (n : Int)) = true := by simp
  go_enter Try.func12, Try.ntmps12
  go_wp2
  go_loopw [5] (fun i wr => ∃ k : Nat, k ≤ n ∧ i = .int .i64 k ∧ ∃ q, wr = w.drewN q) (fun i _ => n - (intOf i).toNat)
  case atStart => exact ⟨0, Nat.zero_le _, rfl, 0, rfl⟩
  case round =>
    obtain ⟨k, hk, rfl, q, rfl⟩ := hrel
    by_cases hlt : k < n
    · have hc1 := h1 k hlt
      have hc2 := h2 k hlt
      clear h1 h2
      generalize xs.getD k 0 = x at *
      go_wp2
      go_region
      all_goals go_wp2
      go_roundw
      case rel => exact ⟨k + 1, by omega, by go_num, q + 1, rfl⟩
      case measure => simp [intOf]; omega
    · have hkn : k = n := by omega
      subst hkn
      go_wp2
      go_ret
      exact ⟨rfl, q, rfl⟩

theorem info5 : (Try.prog.info? 5).map (fun i => (i.zero, i.size, i.bytes)) = some (some (.int .u8 0), 1, 1) := by kernel_rfl

/-- What the copy holds after k rounds. -/
def copied (xs : List Int) (n k : Nat) : List Value := (xs.take k).map (Value.int .u8) ++ List.replicate (n - k) (Value.int .u8 0)

theorem copied_zero (xs : List Int) (n : Nat) : copied xs n 0 = List.replicate n (Value.int .u8 0) := by simp [copied]
theorem copied_full (xs : List Int) (n : Nat) (h : xs.length = n) : copied xs n n = xs.map (Value.int .u8) := by
  simp only [copied, Nat.sub_self, List.replicate_zero, List.append_nil]
  rw [List.take_of_length_le (by omega)]
theorem copied_step (xs : List Int) (n k : Nat) (h : xs.length = n) (hk : k < n) : (copied xs n k).set k (Value.int .u8 (xs.getD k 0)) = copied xs n (k + 1) := by
  unfold copied
  have e1 : xs.take (k + 1) = xs.take k ++ [xs.getD k 0] := by
    rw [List.take_succ_eq_append_getElem (by omega)]
    simp [List.getD, show k < xs.length by omega]
  have e2 : n - k = (n - (k + 1)) + 1 := by omega
  have hl : ((xs.take k).map (Value.int .u8)).length = k := by simp; omega
  rw [e1, e2, List.replicate_succ, List.set_append, if_neg (by omega), hl, Nat.sub_self]
  simp

set_option maxHeartbeats 800000 in
theorem hsClone_some (b o n c : Nat) (xs : List Int) (w : World) (hl : xs.length = n) (hn : n ≤ 1048576) (hbs : 0 < n → b < w.heap.size)
    (hc : ∀ i, i < n → w.cell? ⟨b, o + i, none⟩ = some (.int .u8 (xs.getD i 0))) :
    Calls Try.prog 9 #[.slice (some ⟨b, o, none⟩) n c] w fun e w' => e = .returned (.slice (some ⟨w.heap.size, 0, none⟩) n n) ∧
      w'.ownsRow w.heap.size 5 1 (.slice (some ⟨w.heap.size, 0, none⟩) n n) n (xs.map (Value.int .u8)) ∧ Below w.heap.size w w' ∧ w.heap.size < w'.heap.size := by
  have q22 : ∀ (w : World) (a : Option Addr) (n c n' c' : Nat), (binOp .eql 22 (.slice a n c) (.slice none n' c')).run Try.prog w = .ok (.bool a.isNone) w := fun w a n c n' c' => Lib.run_eql_slice_nil w _ _ a n c n' c' Try.underlying22
  obtain ⟨i0, hi, hz0, hz1, hz2⟩ := info_parts info5
  go_enter Try.func9, Try.ntmps9
  go_wp2_with (at_make; refine wpList_make_full _ rfl _ _ 22 rfl w.heap.size 5 i0 (.int .u8 0) 1 Try.underlying22 hi hz0 hz1 _ _ _ _ n rfl rfl (by omega) (by omega) (by rw [hz2]; omega) (by unfold maxLen; omega) (Nat.le_refl _) ?_)
  intro w1 hown hgrow
  have hz : (madeCells #[Value.int .u8 0] n).toList = copied xs n 0 := by
    rw [copied_zero]; exact toList_madeCells_one _ _
  rw [hz] at hown
  have hbel : Below w.heap.size w w1 := (Below.refl _ _).grown hgrow (Nat.le_refl _) (fun k hk => by cases hk)
  have hsz : w.heap.size < w1.heap.size := by
    rcases hown.2 with ⟨h', _⟩ | ⟨g', cap', cur, h', _, hg, _⟩
    · simp at h'
    · simp only [Value.slice.injEq, Option.some.injEq, Addr.mk.injEq, and_true, true_and] at h'
      obtain ⟨rfl, rfl⟩ := h'
      exact (Array.getElem?_eq_some_iff.1 hg).1
  have HZ : Hid (w.heap.size < w1.heap.size) := hsz
  have HC : Hid (∀ i, i < n → w.cell? ⟨b, o + i, none⟩ = some (.int .u8 (xs.getD i 0))) := hc
  clear hz hgrow hc hsz
  go_wp2
  go_loopw [4] (fun i wr => ∃ k : Nat, k ≤ n ∧ i = .int .i64 k ∧ wr.ownsRow w.heap.size 5 1 (.slice (some ⟨w.heap.size, 0, none⟩) n n) n (copied xs n k) ∧ Below w.heap.size w wr ∧ w.heap.size < wr.heap.size) (fun i _ => n - (intOf i).toNat)
  case atStart => exact ⟨0, Nat.zero_le _, rfl, hown, hbel, HZ.out⟩
  case round =>
    obtain ⟨k, hk, rfl, hown', hbel', hsz'⟩ := hrel
    clear hown hbel
    by_cases hlt : k < n
    · have hcell : wr.cell? ⟨b, o + k, none⟩ = some (.int .u8 (xs.getD k 0)) := (hbel'.cell (p := ⟨b, o + k, none⟩) (hbs (by omega))).trans (HC.out k hlt)
      have hst := hown'.stored k (.int .u8 (xs.getD k 0))
      rw [copied_step xs n k hl hlt] at hst
      have hdst : wr.cell? ⟨w.heap.size, k, none⟩ = (copied xs n k)[k]? := hown'.cellAt k (by omega)
      have hlen : (copied xs n k).length = n := by simp [copied]; omega
      obtain ⟨u, hu⟩ : ∃ u, (copied xs n k)[k]? = some u := ⟨_, List.getElem?_eq_getElem (by omega)⟩
      rw [hu] at hdst
      have hfz := hown'.frozenAt k
      have HS : Hid ((wr.setCell ⟨w.heap.size, k, none⟩ (.int .u8 (xs.getD k 0))).ownsRow w.heap.size 5 1 (.slice (some ⟨w.heap.size, 0, none⟩) n n) n (copied xs n (k + 1))) := hst.1
      have HB : Hid (Below w.heap.size w (wr.setCell ⟨w.heap.size, k, none⟩ (.int .u8 (xs.getD k 0)))) := hbel'.setCell (Nat.le_refl _) _
      clear hst hlen hu hown' hbel'
      generalize xs.getD k 0 = x at *
      go_wp2
      go_roundw
      case rel => exact ⟨k + 1, by omega, by go_num, HS.out, HB.out, by simp [World.setCell]; omega⟩
      case measure => simp [intOf]; omega
    · have hkn : k = n := by omega
      subst hkn
      have HO : Hid (wr.ownsRow w.heap.size 5 1 (.slice (some ⟨w.heap.size, 0, none⟩) k k) k (xs.map (Value.int .u8))) := by
        rw [← copied_full xs k hl]; exact hown'
      have HB : Hid (Below w.heap.size w wr) := hbel'
      have HZ' : Hid (w.heap.size < wr.heap.size) := hsz'
      clear hown' hbel' hsz'
      go_wp2
      go_ret
      exact ⟨rfl, HO.out, HB.out, HZ'.out⟩

set_option maxHeartbeats 400000 in
theorem hsClone_nil (w : World) :
    Calls Try.prog 9 #[.slice none 0 0] w fun e w' => e = .returned (.slice none 0 0) ∧ w' = w := by
  have q22 : ∀ (w : World) (a : Option Addr) (n c n' c' : Nat), (binOp .eql 22 (.slice a n c) (.slice none n' c')).run Try.prog w = .ok (.bool a.isNone) w := fun w a n c n' c' => Lib.run_eql_slice_nil w _ _ a n c n' c' Try.underlying22
  go_enter Try.func9, Try.ntmps9
  go_wp2
  go_ret
  exact ⟨rfl, rfl⟩

end Go.Proofs.Qxb6601856a
