/-
  The leaves of the road of FnIsTargetAgreesWithRequestLine: what each Go function computes.
-/
import Derived.Test.Qxb6601856aProg
import Derived.WalkKit
import Derived.WalkSpells
import Derived.WalkLawsBesides
namespace Go.Proofs.Qxb6601856a
set_option linter.unusedVariables false
set_option linter.unusedSimpArgs false
open Go.RowKit

/-- The slice at p, of n elements, holds the numbers xs. -/
def Held (w : World) (p : Option Addr) (n : Nat) (xs : List Int) : Prop :=
  xs.length = n ∧ (0 < n → ∃ b o, p = some ⟨b, o, none⟩ ∧ ∀ i, i < n → w.cell? ⟨b, o + i, none⟩ = some (.int .u8 (xs.getD i 0)))

theorem Held.below {w w' : World} {p : Option Addr} {n B : Nat} {xs : List Int} (h : Held w p n xs) (hb : Below B w w') (hp : ∀ b o, p = some ⟨b, o, none⟩ → b < B) : Held w' p n xs := by
  refine ⟨h.1, fun hn => ?_⟩
  obtain ⟨b, o, rfl, hc⟩ := h.2 hn
  exact ⟨b, o, rfl, fun i hi => (hb.cell (p := ⟨b, o + i, none⟩) (hp b o rfl)).trans (hc i hi)⟩

/-! ### zzBytes -/
set_option maxHeartbeats 400000 in
theorem zzBytes_yes (p : Option Addr) (n c : Nat) (w : World) (h : n ≤ 1048576) :
    Calls Try.prog 19 #[.slice p n c] w fun e w' => e = .returned (.bool true) ∧ w' = w := by
  have h1 : (n : Int) ≤ 1048576 := by omega
  have h2 : ¬ (1048576 : Int) < (n : Int) := by omega
  go_enter Try.func19, Try.ntmps19
  go_wp2
  go_ret
  exact ⟨rfl, rfl⟩

set_option maxHeartbeats 400000 in
theorem zzBytes_no (p : Option Addr) (n c : Nat) (w : World) (h : 1048576 < n) :
    Calls Try.prog 19 #[.slice p n c] w fun e w' => e = .returned (.bool false) ∧ w' = w := by
  have h1 : (1048576 : Int) < (n : Int) := by omega
  go_enter Try.func19, Try.ntmps19
  go_wp2
  go_ret
  exact ⟨rfl, rfl⟩

/-! ### isDigit -/
set_option maxHeartbeats 400000 in
theorem isDigit_one (w : World) :
    Calls Try.prog 27 #[.int .u8 49] w fun e w' => e = .returned (.bool true) ∧ w' = w := by
  go_enter Try.func27, Try.ntmps27
  go_wp2
  go_ret
  exact ⟨rfl, rfl⟩

/-! ### isTarget -/
def good (c : Int) : Bool := decide (32 < c) && decide (c < 127)
def target (xs : List Int) : Bool := xs.all good && decide (0 < xs.length)

set_option maxHeartbeats 800000 in
theorem isTarget_any (p : Option Addr) (n c : Nat) (xs : List Int) (w : World) (h : Held w p n xs) (hn : n ≤ 1048576) :
    Calls Try.prog 24 #[.slice p n c] w fun e w' => e = .returned (.bool (target xs)) ∧ w' = w := by
  obtain ⟨hl, hp⟩ := h
  rcases Nat.eq_zero_or_pos n with h0 | h0
  · subst h0
    obtain rfl : xs = [] := List.eq_nil_of_length_eq_zero hl
    clear hp hl
    go_enter Try.func24, Try.ntmps24
    go_wp2
    refine wp_loop_rounds 1 ?_
    rw [rounds_succ]
    go_wp2
    go_ret
    exact ⟨rfl, rfl⟩
  · obtain ⟨b, o, rfl, hc⟩ := hp h0
    have hpos : (0 : Int) < (n : Int) := by omega
    go_enter Try.func24, Try.ntmps24
    go_wp2
    go_loop [4, 7] (fun _ i => ∃ k : Nat, k ≤ n ∧ i = .int .i64 k ∧ (xs.take k).all good = true) (fun _ i => n - (intOf i).toNat)
    case atStart => exact ⟨0, Nat.zero_le _, rfl, rfl⟩
    case round =>
      obtain ⟨k, hk, rfl, hall⟩ := hrel
      by_cases hlt : k < n
      · have hcell := hc k hlt
        have hx : xs.getD k 0 = xs[k]'(by omega) := by simp [List.getD, show k < xs.length by omega]
        have hts : xs.take (k + 1) = xs.take k ++ [xs.getD k 0] := by rw [List.take_succ_eq_append_getElem (by omega), hx]
        have HT : Hid ((xs.take (k + 1)).all good = good (xs.getD k 0)) := by
          show _ = _
          rw [hts, List.all_append, hall]; simp
        have HM : Hid (good (xs.getD k 0) = false → target xs = false) := by
          intro hg
          unfold target
          have : xs.all good = false := by
            rw [List.all_eq_false]
            exact ⟨xs.getD k 0, by rw [hx]; exact List.getElem_mem _, by rw [hg]; decide⟩
          simp [this]
        clear hts hx hc hall
        generalize xs.getD k 0 = x at *
        by_cases hg : 32 < x ∧ x < 127
        · obtain ⟨hg1, hg2⟩ := hg
          go_wp2
          go_round
          case rel => exact ⟨k + 1, by omega, by go_num, by rw [HT.out]; simp [good, hg1, hg2]⟩
          case measure => simp [intOf]; omega
        · have HF : Hid (target xs = false) := HM.out (by simp [good]; omega)
          clear HM HT
          rcases (show x ≤ 32 ∨ (32 < x ∧ 127 ≤ x) by omega) with h1 | ⟨h1, h2⟩
          · go_wp2
            go_ret
            exact ⟨by rw [HF.out]; rfl, rfl⟩
          · go_wp2
            go_ret
            exact ⟨by rw [HF.out]; rfl, rfl⟩
      · have hkn : k = n := by omega
        subst hkn
        have HX : Hid (target xs = true) := by
          show _ = _
          unfold target
          rw [List.take_of_length_le (by omega)] at hall
          simp [hall, hl, h0]
        clear hall
        go_wp2
        go_ret
        exact ⟨by rw [HX.out]; rfl, rfl⟩

set_option maxHeartbeats 400000 in
theorem ZZisTarget_any (p : Option Addr) (n c : Nat) (xs : List Int) (w : World) (h : Held w p n xs) (hn : n ≤ 1048576) :
    Calls Try.prog 18 #[.slice p n c] w fun e w' => e = .returned (.bool (target xs)) ∧ w' = w := by
  have hcon := isTarget_any p n c xs w h hn
  go_enter Try.func18, Try.ntmps18
  go_wp2_with (go_at_call 24; refine hcon.mono ?_; rintro e w' ⟨rfl, rfl⟩)
  go_ret
  exact ⟨rfl, rfl⟩

end Go.Proofs.Qxb6601856a
