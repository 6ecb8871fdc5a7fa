/-
  The two functions that reckon sizes: some answer, nothing turned.
-/
import Derived.Test.Qxb6601967aResolve2
namespace Go.Proofs.Qxb6601967a
set_option linter.unusedVariables false
set_option linter.unusedSimpArgs false
open Go.RowKit Go.Maps

/-- The slice of declarations that came in. -/
structure In4 (w : World) (p : Option Addr) (n : Nat) (ds : List Dcl) : Prop where
  len : ds.length = n
  at' : 0 < n → ∃ b o, p = some ⟨b, o, none⟩ ∧ b < w.heap.size ∧ ∀ i d, ds[i]? = some d →
    w.cell? ⟨b, o + i * 4, none⟩ = some (.string d.p) ∧ w.cell? ⟨b, o + i * 4 + 1, none⟩ = some (.string d.s) ∧ w.cell? ⟨b, o + i * 4 + 2, none⟩ = some (.string d.r) ∧ w.cell? ⟨b, o + i * 4 + 3, none⟩ = some (.bool d.b)
  small : ∀ d ∈ ds, d.p.size ≤ maxLen ∧ d.s.size ≤ maxLen ∧ d.r.size ≤ maxLen

theorem In4.below {w w' : World} {p : Option Addr} {n B : Nat} {ds : List Dcl} (h : In4 w p n ds) (hb : Below B w w') (hB : w.heap.size ≤ B) : In4 w' p n ds := by
  refine ⟨h.len, fun hn => ?_, h.small⟩
  obtain ⟨b, o, hp, hlt, hc⟩ := h.at' hn
  refine ⟨b, o, hp, Nat.lt_of_lt_of_le hlt hb.size, fun i d hd => ?_⟩
  obtain ⟨h0, h1, h2, h3⟩ := hc i d hd
  have hc := fun j => hb.cell (p := ⟨b, j, none⟩) (Nat.lt_of_lt_of_le hlt hB)
  exact ⟨by rw [hc]; exact h0, by rw [hc]; exact h1, by rw [hc]; exact h2, by rw [hc]; exact h3⟩

set_option maxHeartbeats 1000000 in
set_option maxRecDepth 100000 in
theorem zzSizeDecls_any (p : Option Addr) (n c : Nat) (ds : List Dcl) (w : World) (h : In4 w p n ds) (hn : n ≤ 1048576) :
    Calls Try.prog 8 #[.slice p n c] w fun e w' => ∃ m, e = .returned (.int .i64 m) ∧ ∃ q, w' = w.drewN q := by
  rcases Nat.eq_zero_or_pos n with h0 | h0
  · subst h0
    clear h
    go_enter Try.func8, Try.ntmps8
    go_wp2
    refine wp_loop_rounds 1 ?_
    rw [rounds_succ]
    go_wp2
    go_ret
    exact ⟨_, rfl, 0, rfl⟩
  · obtain ⟨b, o, rfl, _, hc⟩ := h.at' h0
    have hl := h.len
    clear h
    go_enter Try.func8, Try.ntmps8
    go_wp2
    go_loopw [3, 4] (fun x i wr => ∃ k : Nat, k ≤ n ∧ i = .int .i64 k ∧ (∃ m, x = .int .i64 m) ∧ ∃ q, wr = w.drewN q) (fun _ i _ => n - (intOf i).toNat)
    case atStart => exact ⟨0, Nat.zero_le _, rfl, ⟨0, rfl⟩, 0, rfl⟩
    case round =>
      obtain ⟨k, hk, rfl, ⟨m, rfl⟩, q, rfl⟩ := hrel
      by_cases hlt : k < n
      · obtain ⟨d, hd⟩ : ∃ d, ds[k]? = some d := ⟨_, List.getElem?_eq_getElem (by omega)⟩
        obtain ⟨c0, c1, c2, c3⟩ := hc k d hd
        have hki : (k : Int) < (n : Int) := by omega
        clear hc
        go_wp2
        go_quiet (fail)
        go_wp2
        · go_ret
          exact ⟨_, rfl, _, rfl⟩
        · go_roundw
          case rel => exact ⟨k + 1, by omega, by go_num, ⟨_, rfl⟩, _, rfl⟩
          case measure => simp [intOf]; omega
      · go_wp2
        go_ret
        exact ⟨_, rfl, q, rfl⟩

/-- Some Bool comes back. -/
def SomeBool (e : Ending) : Prop := ∃ bb : Bool, e = .returned (.bool bb)

set_option maxHeartbeats 2000000 in
set_option maxRecDepth 100000 in
theorem zzBytes_any (s0 s2 : ByteArray) (attr : Bool) (p : Option Addr) (n c : Nat) (ds : List Dcl) (w : World) (h : In4 w p n ds) :
    Calls Try.prog 7 #[.string s0, .slice p n c, .string s2, .bool attr] w fun e w' => SomeBool e ∧ w' = w := by
  rcases Nat.eq_zero_or_pos n with h0 | h0
  · subst h0
    clear h
    go_enter Try.func7, Try.ntmps7
    go_wp2
    all_goals first | (go_ret; exact ⟨⟨_, rfl⟩, rfl⟩) | skip
    all_goals refine wp_loop_rounds 1 ?_
    all_goals rw [rounds_succ]
    all_goals go_wp2
    all_goals go_ret
    all_goals exact ⟨⟨_, rfl⟩, rfl⟩
  · by_cases hn : n ≤ 1048576
    · obtain ⟨b, o, rfl, _, hc⟩ := h.at' h0
      have hl := h.len
      clear h
      go_enter Try.func7, Try.ntmps7
      go_wp2
      all_goals first | (go_ret; exact ⟨⟨_, rfl⟩, rfl⟩) | skip
      go_loop [9, 10] (fun x i => ∃ k : Nat, k ≤ n ∧ i = .int .i64 k ∧ (∃ m, x = .int .i64 m)) (fun _ i => n - (intOf i).toNat)
      case atStart => exact ⟨0, Nat.zero_le _, rfl, ⟨_, rfl⟩⟩
      case round =>
        obtain ⟨k, hk, rfl, ⟨m, rfl⟩⟩ := hrel
        by_cases hlt : k < n
        · obtain ⟨d, hd⟩ : ∃ d, ds[k]? = some d := ⟨_, List.getElem?_eq_getElem (by omega)⟩
          obtain ⟨c0, c1, c2, c3⟩ := hc k d hd
          have hki : (k : Int) < (n : Int) := by omega
          clear hc
          go_wp2
          all_goals first | (go_ret; exact ⟨⟨_, rfl⟩, rfl⟩) | skip
          go_round
          case rel => exact ⟨k + 1, by omega, by go_num, ⟨_, rfl⟩⟩
          case measure => simp [intOf]; omega
        · go_wp2
          all_goals go_ret
          all_goals exact ⟨⟨_, rfl⟩, rfl⟩
    · have hb : (1048576 : Int) < (n : Int) := by omega
      clear h
      go_enter Try.func7, Try.ntmps7
      go_wp2
      all_goals go_ret
      all_goals exact ⟨⟨_, rfl⟩, rfl⟩

end Go.Proofs.Qxb6601967a
