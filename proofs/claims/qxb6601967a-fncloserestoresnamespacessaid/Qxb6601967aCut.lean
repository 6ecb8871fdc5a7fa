/-
  strings.Cut at ":" and the law's own zzCut: both cut at the first colon.
-/
import Derived.Test.Qxb6601967aNs
import Derived.Lib.Bytealg
import Derived.Laws.Externs
namespace Go.Proofs.Qxb6601967a
set_option linter.unusedVariables false
set_option linter.unusedSimpArgs false
open Go.RowKit Go.Maps

/-- Where the first colon stands, or the length. -/
def colon : List UInt8 → Nat
  | [] => 0
  | x :: l => if x = 58 then 0 else colon l + 1

theorem colon_le : ∀ l : List UInt8, colon l ≤ l.length
  | [] => Nat.le_refl _
  | x :: l => by
    have := colon_le l
    have es : colon (x :: l) = if x = 58 then 0 else colon l + 1 := rfl
    rw [es]
    split
    · exact Nat.zero_le _
    · simp; omega

theorem indexByte_colon : ∀ l : List UInt8, Lib.indexByte l 58 = if colon l < l.length then (colon l : Int) else -1
  | [] => rfl
  | x :: l => by
    have ih := indexByte_colon l
    have es : colon (x :: l) = if x = 58 then 0 else colon l + 1 := rfl
    rw [Lib.indexByte, es, ih]
    by_cases hx : x = 58
    · simp [hx]
    · have hb : (x == 58) = false := by simpa using hx
      rw [hb, if_neg hx]
      by_cases hl : colon l < l.length
      · have hne : (((colon l : Nat) : Int) == -1) = false := by rw [beq_eq_false_iff_ne]; omega
        simp [hl, hne]
      · simp [hl]

/-- No colon before k; one at k. -/
theorem colon_eq : ∀ (l : List UInt8) (k : Nat) (hk : k < l.length), (∀ j (h : j < k), l[j]'(by omega) ≠ 58) → l[k] = 58 → colon l = k
  | [], k, hk, _, _ => by simp at hk
  | x :: l, 0, hk, _, h => by
    have es : colon (x :: l) = if x = 58 then 0 else colon l + 1 := rfl
    rw [es, if_pos (by simpa using h)]
  | x :: l, k + 1, hk, hn, h => by
    have es : colon (x :: l) = if x = 58 then 0 else colon l + 1 := rfl
    have h0 := hn 0 (by omega)
    rw [es, if_neg (by simpa using h0), colon_eq l k (by simpa using hk) (fun j hj => by have := hn (j + 1) (by omega); simpa using this) (by simpa using h)]

theorem colon_none : ∀ (l : List UInt8), (∀ j (h : j < l.length), l[j] ≠ 58) → colon l = l.length
  | [], _ => rfl
  | x :: l, hn => by
    have es : colon (x :: l) = if x = 58 then 0 else colon l + 1 := rfl
    have h0 := hn 0 (by simp)
    rw [es, if_neg (by simpa using h0), colon_none l (fun j hj => by have := hn (j + 1) (by simpa using hj); simpa using this)]
    simp

def ci (s : ByteArray) : Nat := colon s.data.toList
theorem size_len (s : ByteArray) : s.data.toList.length = s.size := by rw [Array.length_toList]; rfl
theorem ci_le (s : ByteArray) : ci s ≤ s.size := by have := colon_le s.data.toList; rw [size_len] at this; exact this

set_option maxHeartbeats 400000 in
set_option maxRecDepth 100000 in
theorem indexByte54 (s : ByteArray) (w : World) :
    Calls Try.prog 54 #[.string s, .int .u8 58] w fun e w' => e = .returned (.int .i64 (Lib.indexByte s.data.toList 58)) ∧ w' = w := by
  go_enter Try.func54, Try.ntmps54
  go_wp2
  rw [run_callFunc_extern Try.func58 (by kernel_rfl) (by kernel_rfl) (by kernel_rfl) (e := Extern.BytealgIndexByte.indexByte) (by kernel_rfl), Lib.run_indexByteString s 58 w]
  simp only [Result.andThen]
  rw [Oper.upon_value]
  go_wp2
  go_ret
  exact ⟨rfl, rfl⟩

set_option maxHeartbeats 400000 in
set_option maxRecDepth 100000 in
theorem index53 (s : ByteArray) (w : World) :
    Calls Try.prog 53 #[.string s, .string ⟨#[58]⟩] w fun e w' => e = .returned (.int .i64 (Lib.indexByte s.data.toList 58)) ∧ w' = w := by
  have hcon := indexByte54 s w
  by_cases hs : s = ⟨#[58]⟩
  · subst hs
    go_enter Try.func53, Try.ntmps53
    go_wp2_with fail
    go_ret
    exact ⟨rfl, rfl⟩
  · have hf : (([58] : List UInt8) == s.toList) = false := by
      have := eqS_false (a := ⟨#[58]⟩) (b := s) (fun e => hs e.symm)
      simpa using this
    go_enter Try.func53, Try.ntmps53
    go_wp2_with fail
    refine hcon.mono ?_
    rintro e w' ⟨rfl, rfl⟩
    go_wp2_with fail
    go_ret
    exact ⟨rfl, rfl⟩

set_option maxHeartbeats 400000 in
set_option maxRecDepth 100000 in
theorem cut52_hit (s : ByteArray) (w : World) (i : Nat) (hi : ci s = i) (hlt : i < s.size) (hsz : s.size ≤ 1048576) :
    Calls Try.prog 52 #[.string s, .string ⟨#[58]⟩] w fun e w' => e = .returned (.tuple #[.string (s.extract 0 i), .string (s.extract (i + 1) s.size), .bool true]) ∧ ∃ q, w' = w.drewN q := by
  have hcon := index53 s w
  have hx : Lib.indexByte s.data.toList 58 = (i : Int) := by
    rw [indexByte_colon, size_len]
    have : colon s.data.toList = i := hi
    rw [this, if_pos hlt]
  rw [hx] at hcon
  clear hx hi
  go_enter Try.func52, Try.ntmps52
  go_wp2_with fail
  refine hcon.mono ?_
  rintro e w' ⟨rfl, rfl⟩
  go_wp2_with fail
  go_region
  all_goals go_wp2
  all_goals go_ret3
  all_goals exact ⟨rfl, _, rfl⟩

set_option maxHeartbeats 400000 in
set_option maxRecDepth 100000 in
theorem cut52_miss (s : ByteArray) (w : World) (hi : ci s = s.size) :
    Calls Try.prog 52 #[.string s, .string ⟨#[58]⟩] w fun e w' => e = .returned (.tuple #[.string s, .string mt, .bool false]) ∧ w' = w := by
  have hcon := index53 s w
  have hx : Lib.indexByte s.data.toList 58 = -1 := by
    rw [indexByte_colon, size_len]
    have : colon s.data.toList = s.size := hi
    rw [this, if_neg (Nat.lt_irrefl _)]
  rw [hx] at hcon
  clear hx hi
  go_enter Try.func52, Try.ntmps52
  go_wp2_with fail
  refine hcon.mono ?_
  rintro e w' ⟨rfl, rfl⟩
  go_wp2_with fail
  go_ret3
  exact ⟨rfl, rfl⟩

set_option maxHeartbeats 400000 in
theorem cut49_hit (s : ByteArray) (w : World) (i : Nat) (hi : ci s = i) (hlt : i < s.size) (hsz : s.size ≤ 1048576) :
    Calls Try.prog 49 #[.string s, .string ⟨#[58]⟩] w fun e w' => e = .returned (.tuple #[.string (s.extract 0 i), .string (s.extract (i + 1) s.size), .bool true]) ∧ ∃ q, w' = w.drewN q := by
  have hcon := cut52_hit s w i hi hlt hsz
  go_enter Try.func49, Try.ntmps49
  go_wp2_with fail
  refine hcon.mono ?_
  rintro e w' ⟨rfl, q, rfl⟩
  go_wp2_with fail
  go_ret3
  exact ⟨rfl, q, rfl⟩

set_option maxHeartbeats 400000 in
theorem cut49_miss (s : ByteArray) (w : World) (hi : ci s = s.size) :
    Calls Try.prog 49 #[.string s, .string ⟨#[58]⟩] w fun e w' => e = .returned (.tuple #[.string s, .string mt, .bool false]) ∧ w' = w := by
  have hcon := cut52_miss s w hi
  go_enter Try.func49, Try.ntmps49
  go_wp2_with fail
  refine hcon.mono ?_
  rintro e w' ⟨rfl, rfl⟩
  go_wp2_with fail
  go_ret3
  exact ⟨rfl, rfl⟩

theorem byte_get (s : ByteArray) (k : Nat) (h : k < s.size) : s.data.toList[k]'(by rw [size_len]; exact h) = s[k] := rfl

set_option maxHeartbeats 800000 in
theorem zzCut_hit (s : ByteArray) (w : World) (i : Nat) (hi : ci s = i) (hlt : i < s.size) (hsz : s.size ≤ 1048576) :
    Calls Try.prog 12 #[.string s] w fun e w' => e = .returned (.tuple #[.string (s.extract 0 i), .string (s.extract (i + 1) s.size), .bool true]) ∧ ∃ q, w' = w.drewN q := by
  go_enter Try.func12, Try.ntmps12
  go_wp2
  go_loop [5] (fun x => ∃ k : Nat, k ≤ s.size ∧ x = .int .i64 k ∧ ∀ j (h : j < k) (h2 : j < s.size), s[j] ≠ 58) (fun x => s.size - (intOf x).toNat)
  case atStart => exact ⟨0, Nat.zero_le _, rfl, fun j h => absurd h (Nat.not_lt_zero _)⟩
  case round =>
    obtain ⟨k, hk, rfl, hno⟩ := hrel
    have HNO : Hid (∀ j (h : j < k) (h2 : j < s.size), s[j] ≠ 58) := hno
    clear hno
    by_cases hks : k < s.size
    · by_cases hc : s[k] = 58
      · have hki : k = i := by
          rw [← hi]
          exact (colon_eq s.data.toList k (by rw [size_len]; exact hks) (fun j hj => HNO.out j hj (by omega)) hc).symm
        subst hki
        have hcb : (((s[k]).toNat : Int) == 58) = true := by rw [hc]; rfl
        clear hc hi
        go_wp2
        go_region
        all_goals go_wp2
        all_goals go_ret3
        all_goals exact ⟨rfl, _, rfl⟩
      · have hcb : (((s[k]).toNat : Int) == 58) = false := by
          rw [beq_eq_false_iff_ne]
          intro e
          apply hc
          rw [← UInt8.toNat_inj]
          have : (58 : UInt8).toNat = 58 := rfl
          omega
        have HC : Hid (s[k] ≠ 58) := hc
        clear hc
        go_wp2
        go_round
        case rel => exact ⟨k + 1, by omega, by go_num, fun j h h2 => by
          rcases Nat.lt_succ_iff_lt_or_eq.1 h with h' | h'
          · exact HNO.out j h' h2
          · subst h'; exact HC.out⟩
        case measure => simp [intOf]; omega
    · exfalso
      have : ci s = s.size := by
        have := colon_none s.data.toList (fun j hj => HNO.out j (by rw [size_len] at hj; omega) (by rw [size_len] at hj; exact hj))
        rw [size_len] at this
        exact this
      omega

set_option maxHeartbeats 800000 in
theorem zzCut_miss (s : ByteArray) (w : World) (hi : ci s = s.size) (hsz : s.size ≤ 1048576) :
    Calls Try.prog 12 #[.string s] w fun e w' => e = .returned (.tuple #[.string s, .string mt, .bool false]) ∧ ∃ q, w' = w.drewN q := by
  go_enter Try.func12, Try.ntmps12
  go_wp2
  go_loop [5] (fun x => ∃ k : Nat, k ≤ s.size ∧ x = .int .i64 k ∧ ∀ j (h : j < k) (h2 : j < s.size), s[j] ≠ 58) (fun x => s.size - (intOf x).toNat)
  case atStart => exact ⟨0, Nat.zero_le _, rfl, fun j h => absurd h (Nat.not_lt_zero _)⟩
  case round =>
    obtain ⟨k, hk, rfl, hno⟩ := hrel
    have HNO : Hid (∀ j (h : j < k) (h2 : j < s.size), s[j] ≠ 58) := hno
    clear hno
    by_cases hks : k < s.size
    · by_cases hc : s[k] = 58
      · exfalso
        have : ci s = k := colon_eq s.data.toList k (by rw [size_len]; exact hks) (fun j hj => HNO.out j hj (by omega)) hc
        omega
      · have hcb : (((s[k]).toNat : Int) == 58) = false := by
          rw [beq_eq_false_iff_ne]
          intro e
          apply hc
          rw [← UInt8.toNat_inj]
          have : (58 : UInt8).toNat = 58 := rfl
          omega
        have HC : Hid (s[k] ≠ 58) := hc
        clear hc
        go_wp2
        go_round
        case rel => exact ⟨k + 1, by omega, by go_num, fun j h h2 => by
          rcases Nat.lt_succ_iff_lt_or_eq.1 h with h' | h'
          · exact HNO.out j h' h2
          · subst h'; exact HC.out⟩
        case measure => simp [intOf]; omega
    · have hkn : k = s.size := by omega
      go_wp2
      go_ret3
      exact ⟨rfl, 0, rfl⟩

end Go.Proofs.Qxb6601967a
