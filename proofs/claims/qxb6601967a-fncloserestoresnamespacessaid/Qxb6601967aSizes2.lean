/-
  zzSizeNS and the bound on the lengths of statement 3's arguments.
-/
import Derived.Test.Qxb6601967aClose3
namespace Go.Proofs.Qxb6601967a
set_option linter.unusedVariables false
set_option linter.unusedSimpArgs false
open Go.RowKit Go.Maps

set_option maxHeartbeats 1000000 in
set_option maxRecDepth 100000 in
theorem zzSizeNS_any (p : Option Addr) (n c B : Nat) (ds : List Nd) (w : World) (h : In2 w B p n ds) (hn : n ≤ 1048576) :
    Calls Try.prog 20 #[.slice p n c] w fun e w' => ∃ m, e = .returned (.int .i64 m) ∧ ∃ q, w' = w.drewN q := by
  go_enter Try.func20, Try.ntmps20
  go_wp2_with fail
  go_loopw [3, 4] (fun x i wr => ∃ k : Nat, k ≤ n ∧ i = .int .i64 k ∧ (∃ m, x = .int .i64 m) ∧ ∃ q, wr = w.drewN q) (fun _ i _ => n - (intOf i).toNat)
  case atStart => exact ⟨0, Nat.zero_le _, rfl, ⟨0, rfl⟩, 0, rfl⟩
  case round =>
    obtain ⟨k, hk, rfl, ⟨m, rfl⟩, q, rfl⟩ := hrel
    by_cases hlt : k < n
    · have hl := h.len
      obtain ⟨d, hd⟩ : ∃ d, ds[k]? = some d := ⟨_, List.getElem?_eq_getElem (by omega)⟩
      obtain ⟨b, o, hpe, _, hc⟩ := h.at' (by omega)
      obtain ⟨c0, c1⟩ := hc k d hd
      have hki : (k : Int) < (n : Int) := by omega
      cases hpe
      clear hc h hd hl
      go_wp2_with fail
      go_quiet (fail)
      go_wp2_with fail
      · go_ret
        exact ⟨_, rfl, q + nq, rfl⟩
      · go_roundw
        case rel => exact ⟨k + 1, by omega, by go_num, ⟨_, rfl⟩, _, rfl⟩
        case measure => simp [intOf]; omega
    · clear h
      go_wp2_with fail
      go_ret
      exact ⟨_, rfl, q, rfl⟩

/-- false, or true and P. -/
def Bound (P : Prop) (e : Ending) : Prop := e = .returned (.bool false) ∨ (e = .returned (.bool true) ∧ P)

set_option maxHeartbeats 4000000 in
set_option maxRecDepth 100000 in
theorem zzB_any (s0 s3 s5 : ByteArray) (x4 x6 : Bool) (p1 p2 : Option Addr) (n1 c1 n2 c2 B : Nat) (l1 l2 : List Nd) (w : World) (h1 : In2 w B p1 n1 l1) (h2 : In2 w B p2 n2 l2) :
    Calls Try.prog 40 #[.string s0, .slice p1 n1 c1, .slice p2 n2 c2, .string s3, .bool x4, .string s5, .bool x6] w fun e w' => Bound (n1 + n2 ≤ 1048576) e ∧ w' = w := by
  have H1 : Hid (In2 w B p1 n1 l1) := h1
  have H2 : Hid (In2 w B p2 n2 l2) := h2
  clear h1 h2
  go_enter Try.func40, Try.ntmps40
  go_wp2_with fail
  all_goals first | (go_ret; exact ⟨Or.inl rfl, rfl⟩) | skip
  go_loop [15, 16] (fun x i => ∃ k : Nat, k ≤ n1 ∧ i = .int .i64 k ∧ ∃ m : Int, x = .int .i64 m ∧ (n1 : Int) ≤ m ∧ m ≤ 1048576) (fun _ i => n1 - (intOf i).toNat)
  case atStart => exact ⟨0, Nat.zero_le _, rfl, _, rfl, by omega, by omega⟩
  case round =>
    obtain ⟨k, hk, rfl, m, rfl, hm1, hm2⟩ := hrel
    by_cases hlt : k < n1
    · have hl := H1.out.len
      obtain ⟨d, hd⟩ : ∃ d, l1[k]? = some d := ⟨_, List.getElem?_eq_getElem (by omega)⟩
      obtain ⟨b, o, hpe, _, hc⟩ := H1.out.at' (by omega)
      obtain ⟨c0, c1'⟩ := hc k d hd
      have hki : (k : Int) < (n1 : Int) := by omega
      cases hpe
      clear hc hd hl
      go_wp2_with fail
      all_goals first | (go_ret; exact ⟨Or.inl rfl, rfl⟩) | skip
      go_round
      case rel => exact ⟨k + 1, by omega, by go_num, _, rfl, by omega, by omega⟩
      case measure => simp [intOf]; omega
    · go_wp2_with fail
      all_goals first | (go_ret; exact ⟨Or.inl rfl, rfl⟩) | skip
      go_loop [15, 17] (fun x i => ∃ k : Nat, k ≤ n2 ∧ i = .int .i64 k ∧ ∃ m : Int, x = .int .i64 m ∧ (n1 : Int) + (n2 : Int) ≤ m ∧ m ≤ 1048576) (fun _ i => n2 - (intOf i).toNat)
      case atStart => exact ⟨0, Nat.zero_le _, rfl, _, rfl, by omega, by omega⟩
      case round =>
        obtain ⟨k2, hk2, rfl, m2, rfl, hm3, hm4⟩ := hrel
        have HS : Hid (n1 + n2 ≤ 1048576) := by show _ ≤ _; omega
        by_cases hlt2 : k2 < n2
        · have hl := H2.out.len
          obtain ⟨d, hd⟩ : ∃ d, l2[k2]? = some d := ⟨_, List.getElem?_eq_getElem (by omega)⟩
          obtain ⟨b, o, hpe, _, hc⟩ := H2.out.at' (by omega)
          obtain ⟨c0, c1'⟩ := hc k2 d hd
          have hki : (k2 : Int) < (n2 : Int) := by omega
          cases hpe
          clear hc hd hl
          go_wp2_with fail
          all_goals first | (go_ret; exact ⟨Or.inl rfl, rfl⟩) | skip
          go_round
          case rel => exact ⟨k2 + 1, by omega, by go_num, _, rfl, by omega, by omega⟩
          case measure => simp [intOf]; omega
        · go_wp2_with fail
          all_goals go_ret
          all_goals first | exact ⟨Or.inl rfl, rfl⟩ | exact ⟨Or.inr ⟨rfl, HS.out⟩, rfl⟩

end Go.Proofs.Qxb6601967a
