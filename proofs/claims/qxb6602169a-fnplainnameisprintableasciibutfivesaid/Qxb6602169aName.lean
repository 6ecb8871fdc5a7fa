/-
  plainName and the law's own loop: every byte of the string is plain.
-/
import Derived.Test.Qxb6602169aPlain
namespace Go.Proofs.Qxb6602169a
set_option linter.unusedVariables false
set_option linter.unusedSimpArgs false
open Go.RowKit

theorem take_all (s : ByteArray) (k : Nat) (hk : k < s.size) (h : (s.data.toList.take k).all okB = true) :
    (s.data.toList.take (k + 1)).all okB = okB (s[k]'hk) := by
  have hk' : k < s.data.toList.length := by simpa using hk
  rw [List.take_succ_eq_append_getElem hk', List.all_append, h]
  simp
  rfl

theorem not_all (s : ByteArray) (k : Nat) (hk : k < s.size) (h : okB (s[k]'hk) = false) : s.data.toList.all okB = false := by
  have hk' : k < s.data.toList.length := by simpa using hk
  rw [List.all_eq_false]
  refine ⟨s.data.toList[k]'hk', List.getElem_mem _, ?_⟩
  have : s.data.toList[k]'hk' = s[k]'hk := by simp; rfl
  rw [this, h]; simp

def inP (c : UInt8) : Bool := punct.contains c
theorem ok_in (c : UInt8) : okB c = (alnum c || inP c) := ok_eq c
theorem containsRune_in (c : UInt8) (w : World) :
    Calls Try.prog 23 #[.string ⟨#[33, 35, 36, 37, 38, 40, 41, 42, 43, 45, 46, 47, 58, 59, 60, 61, 62, 63, 64, 91, 93, 94, 95, 123, 124, 125, 126, 32]⟩, .int .i32 c.toNat] w fun e w' => e = .returned (.bool (inP c)) ∧ ∃ q, w' = w.drewN q :=
  containsRune_any c w

set_option maxHeartbeats 1000000 in
set_option maxRecDepth 100000 in
theorem plainName_any (s : ByteArray) (hs : s.size ≤ 1048576) (w : World) :
    Calls Try.prog 22 #[.string s] w fun e w' => e = .returned (.bool (s.data.toList.all okB)) ∧ ∃ q, w' = w.drewN q := by
  go_enter Try.func22, Try.ntmps22
  go_wp2_with fail
  go_loopw [8] (fun i wr => ∃ k : Nat, k ≤ s.size ∧ i = .int .i64 k ∧ (s.data.toList.take k).all okB = true ∧ ∃ q, wr = w.drewN q) (fun i _ => s.size - (intOf i).toNat)
  case atStart => exact ⟨0, Nat.zero_le _, rfl, rfl, 0, rfl⟩
  case round =>
    obtain ⟨k, hk, rfl, hall, q, rfl⟩ := hrel
    by_cases hlt : k < s.size
    · have HT : Hid ((s.data.toList.take (k + 1)).all okB = okB (s[k]'hlt)) := take_all s k hlt hall
      have HM : Hid (okB (s[k]'hlt) = false → s.data.toList.all okB = false) := not_all s k hlt
      have hx := (s[k]'hlt).toNat_lt
      clear hall
      have hsp : (((s[k]'hlt).toNat : Int) < 48) ∨ (48 ≤ ((s[k]'hlt).toNat : Int) ∧ ((s[k]'hlt).toNat : Int) ≤ 57) ∨ (57 < ((s[k]'hlt).toNat : Int) ∧ ((s[k]'hlt).toNat : Int) < 65) ∨ (65 ≤ ((s[k]'hlt).toNat : Int) ∧ ((s[k]'hlt).toNat : Int) ≤ 90)
        ∨ (90 < ((s[k]'hlt).toNat : Int) ∧ ((s[k]'hlt).toNat : Int) < 97) ∨ (97 ≤ ((s[k]'hlt).toNat : Int) ∧ ((s[k]'hlt).toNat : Int) ≤ 122) ∨ (122 < ((s[k]'hlt).toNat : Int)) := by omega
      rcases hsp with h | ⟨h, h'⟩ | ⟨h, h'⟩ | ⟨h, h'⟩ | ⟨h, h'⟩ | ⟨h, h'⟩ | h
      · skip
        go_wp2_with fail
        refine (containsRune_in _ _).mono ?_
        rintro e w' ⟨rfl, q', rfl⟩
        rcases Bool.eq_false_or_eq_true (inP (s[k]'hlt)) with hp | hp
        · have HO : Hid (okB (s[k]'hlt) = true) := by show _ = _; rw [ok_in, hp, Bool.or_true]
          go_wp2_with fail
          go_roundw
          case rel => exact ⟨k + 1, by omega, by go_num, by rw [HT.out, HO.out], q + q', rfl⟩
          case measure => simp [intOf]; omega
        · have HO : Hid (okB (s[k]'hlt) = false) := by show _ = _; rw [ok_in, hp, Bool.or_false]; simp [alnum]; omega
          go_wp2_with fail
          go_ret
          exact ⟨by rw [HM.out HO.out] <;> rfl, q + q', rfl⟩
      · skip
        have HO : Hid (okB (s[k]'hlt) = true) := by
          have ha : alnum (s[k]'hlt) = true := by simp [alnum]; omega
          show _ = _
          rw [ok_eq, ha, Bool.true_or]
        go_wp2_with fail
        go_roundw
        case rel => exact ⟨k + 1, by omega, by go_num, by rw [HT.out, HO.out], q, rfl⟩
        case measure => simp [intOf]; omega
      · skip
        have hd57 : decide (((s[k]'hlt).toNat : Int) ≤ 57) = false := decide_eq_false (by omega)
        go_wp2_with fail
        refine (containsRune_in _ _).mono ?_
        rintro e w' ⟨rfl, q', rfl⟩
        rcases Bool.eq_false_or_eq_true (inP (s[k]'hlt)) with hp | hp
        · have HO : Hid (okB (s[k]'hlt) = true) := by show _ = _; rw [ok_in, hp, Bool.or_true]
          go_wp2_with fail
          go_roundw
          case rel => exact ⟨k + 1, by omega, by go_num, by rw [HT.out, HO.out], q + q', rfl⟩
          case measure => simp [intOf]; omega
        · have HO : Hid (okB (s[k]'hlt) = false) := by show _ = _; rw [ok_in, hp, Bool.or_false]; simp [alnum]; omega
          go_wp2_with fail
          go_ret
          exact ⟨by rw [HM.out HO.out] <;> rfl, q + q', rfl⟩
      · skip
        have HO : Hid (okB (s[k]'hlt) = true) := by
          have ha : alnum (s[k]'hlt) = true := by simp [alnum]; omega
          show _ = _
          rw [ok_eq, ha, Bool.true_or]
        go_wp2_with fail
        go_roundw
        case rel => exact ⟨k + 1, by omega, by go_num, by rw [HT.out, HO.out], q, rfl⟩
        case measure => simp [intOf]; omega
      · skip
        have hd57 : decide (((s[k]'hlt).toNat : Int) ≤ 57) = false := decide_eq_false (by omega)
        have hd90 : decide (((s[k]'hlt).toNat : Int) ≤ 90) = false := decide_eq_false (by omega)
        go_wp2_with fail
        refine (containsRune_in _ _).mono ?_
        rintro e w' ⟨rfl, q', rfl⟩
        rcases Bool.eq_false_or_eq_true (inP (s[k]'hlt)) with hp | hp
        · have HO : Hid (okB (s[k]'hlt) = true) := by show _ = _; rw [ok_in, hp, Bool.or_true]
          go_wp2_with fail
          go_roundw
          case rel => exact ⟨k + 1, by omega, by go_num, by rw [HT.out, HO.out], q + q', rfl⟩
          case measure => simp [intOf]; omega
        · have HO : Hid (okB (s[k]'hlt) = false) := by show _ = _; rw [ok_in, hp, Bool.or_false]; simp [alnum]; omega
          go_wp2_with fail
          go_ret
          exact ⟨by rw [HM.out HO.out] <;> rfl, q + q', rfl⟩
      · skip
        have HO : Hid (okB (s[k]'hlt) = true) := by
          have ha : alnum (s[k]'hlt) = true := by simp [alnum]; omega
          show _ = _
          rw [ok_eq, ha, Bool.true_or]
        go_wp2_with fail
        go_roundw
        case rel => exact ⟨k + 1, by omega, by go_num, by rw [HT.out, HO.out], q, rfl⟩
        case measure => simp [intOf]; omega
      · skip
        have hd57 : decide (((s[k]'hlt).toNat : Int) ≤ 57) = false := decide_eq_false (by omega)
        have hd90 : decide (((s[k]'hlt).toNat : Int) ≤ 90) = false := decide_eq_false (by omega)
        have hd122 : decide (((s[k]'hlt).toNat : Int) ≤ 122) = false := decide_eq_false (by omega)
        go_wp2_with fail
        refine (containsRune_in _ _).mono ?_
        rintro e w' ⟨rfl, q', rfl⟩
        rcases Bool.eq_false_or_eq_true (inP (s[k]'hlt)) with hp | hp
        · have HO : Hid (okB (s[k]'hlt) = true) := by show _ = _; rw [ok_in, hp, Bool.or_true]
          go_wp2_with fail
          go_roundw
          case rel => exact ⟨k + 1, by omega, by go_num, by rw [HT.out, HO.out], q + q', rfl⟩
          case measure => simp [intOf]; omega
        · have HO : Hid (okB (s[k]'hlt) = false) := by show _ = _; rw [ok_in, hp, Bool.or_false]; simp [alnum]; omega
          go_wp2_with fail
          go_ret
          exact ⟨by rw [HM.out HO.out] <;> rfl, q + q', rfl⟩
    · have hkn : k = s.size := by omega
      subst hkn
      have HA : Hid (s.data.toList.all okB = true) := by
        have e : s.data.toList.take s.size = s.data.toList := List.take_of_length_le (by simp)
        rw [e] at hall; exact hall
      go_wp2_with fail
      go_ret
      exact ⟨by rw [HA.out] <;> rfl, q, rfl⟩

theorem zzPlainName_any (s : ByteArray) (hs : s.size ≤ 1048576) (w : World) :
    Calls Try.prog 18 #[.string s] w fun e w' => e = .returned (.bool (s.data.toList.all okB)) ∧ ∃ q, w' = w.drewN q := by
  have hcon := plainName_any s hs w
  generalize s.data.toList.all okB = bb at *
  go_enter Try.func18, Try.ntmps18
  go_wp2_with fail
  refine hcon.mono ?_
  rintro e w' ⟨rfl, q, rfl⟩
  go_wp2_with fail
  go_ret
  exact ⟨rfl, q, rfl⟩

theorem zzBytes_any (s : ByteArray) (w : World) (hw : s.size ≤ maxLen) :
    Calls Try.prog 16 #[.string s] w fun e w' => e = .returned (.bool (decide (s.size ≤ 1048576))) ∧ w' = w := by
  have hm : (maxLen : Nat) = 9223372036854775807 := rfl
  by_cases h : s.size ≤ 1048576
  · have hd : decide (s.size ≤ 1048576) = true := decide_eq_true h
    go_enter Try.func16, Try.ntmps16
    go_wp2_with fail
    go_ret
    exact ⟨by rw [hd] <;> rfl, rfl⟩
  · have hd : decide (s.size ≤ 1048576) = false := decide_eq_false h
    go_enter Try.func16, Try.ntmps16
    go_wp2_with fail
    go_ret
    exact ⟨by rw [hd] <;> rfl, rfl⟩

set_option maxHeartbeats 1000000 in
set_option maxRecDepth 100000 in
theorem top_small (s : ByteArray) (hs : s.size ≤ 65536) (w : World) :
    Calls Try.prog 6 #[.string s] w fun e w' => e = .returned (.bool true) ∧ ∃ q, w' = w.drewN q := by
  have hz := zzBytes_any s w (by show s.size ≤ 9223372036854775807; omega)
  have hd : decide (s.size ≤ 1048576) = true := decide_eq_true (by omega)
  rw [hd] at hz
  have hP := fun w => zzPlainName_any s (by omega) w
  have HP : Hid (∀ w, Calls Try.prog 18 #[.string s] w fun e w' => e = .returned (.bool (s.data.toList.all okB)) ∧ ∃ q, w' = w.drewN q) := hP
  clear hP hd
  go_enter Try.func6, Try.ntmps6
  go_wp2_with fail
  refine hz.mono ?_
  rintro e w' ⟨rfl, rfl⟩
  clear hz
  go_wp2_with fail
  go_loopw [3, 4] (fun wv i wr => ∃ k : Nat, k ≤ s.size ∧ i = .int .i64 k ∧ (s.data.toList.take k).all okB = true ∧ wv = .bool true ∧ wr = w') (fun _ i _ => s.size - (intOf i).toNat)
  case atStart => exact ⟨0, Nat.zero_le _, rfl, rfl, rfl, rfl⟩
  case round =>
    obtain ⟨k, hk, rfl, hall, rfl, rfl⟩ := hrel
    by_cases hlt : k < s.size
    · have HT : Hid ((s.data.toList.take (k + 1)).all okB = okB (s[k]'hlt)) := take_all s k hlt hall
      have HM : Hid (okB (s[k]'hlt) = false → s.data.toList.all okB = false) := not_all s k hlt
      clear hall
      go_wp2_with fail
      refine (plainByte_any _ _).mono ?_
      rintro e w' ⟨rfl, rfl⟩
      rcases Bool.eq_false_or_eq_true (okB (s[k]'hlt)) with hp | hp
      · go_wp2_with fail
        go_roundw
        case rel => exact ⟨k + 1, by omega, by go_num, by rw [HT.out, hp], rfl, trivial⟩
        case measure => simp [intOf]; omega
      · have hcon := HP.out w'
        rw [HM.out hp] at hcon
        go_wp2_with fail
        refine hcon.mono ?_
        rintro e w' ⟨rfl, q, rfl⟩
        go_wp2_with fail
        go_ret
        exact ⟨rfl, q, rfl⟩
    · have hkn : k = s.size := by omega
      subst hkn
      have hcon := HP.out wr
      have HA : s.data.toList.all okB = true := by
        have e : s.data.toList.take s.size = s.data.toList := List.take_of_length_le (by simp)
        rw [e] at hall; exact hall
      rw [HA] at hcon
      go_wp2_with fail
      refine hcon.mono ?_
      rintro e w' ⟨rfl, q, rfl⟩
      go_wp2_with fail
      go_ret
      exact ⟨rfl, q, rfl⟩

theorem top_big (s : ByteArray) (hs : 65536 < s.size) (hm : s.size ≤ maxLen) (w : World) :
    Calls Try.prog 6 #[.string s] w fun e w' => e = .returned (.bool true) ∧ ∃ q, w' = w.drewN q := by
  have hz := zzBytes_any s w hm
  have hm' : s.size ≤ 9223372036854775807 := hm
  clear hm
  by_cases h : s.size ≤ 1048576
  · rw [decide_eq_true h] at hz
    go_enter Try.func6, Try.ntmps6
    go_wp2_with fail
    refine hz.mono ?_
    rintro e w' ⟨rfl, rfl⟩
    clear hz
    go_wp2_with fail
    go_ret
    exact ⟨rfl, 0, rfl⟩
  · rw [decide_eq_false h] at hz
    go_enter Try.func6, Try.ntmps6
    go_wp2_with fail
    refine hz.mono ?_
    rintro e w' ⟨rfl, rfl⟩
    clear hz
    go_wp2_with fail
    go_ret
    exact ⟨rfl, 0, rfl⟩

end Go.Proofs.Qxb6602169a
