/-
  strings.IndexByte, IndexRune and ContainsRune at the constant of plainName; the bytes that are plain.
-/
import Derived.Test.Qxb6602169aProg
import Derived.WalkKit
import Derived.WalkSpells
import Derived.WalkLawsBesides
import Derived.Deep.QuietTactic
import Derived.BigQuiet
import Derived.Lib.Bytealg
import Derived.Laws.Externs
namespace Go.Proofs.Qxb6602169a
set_option linter.unusedVariables false
set_option linter.unusedSimpArgs false
open Go.RowKit

/-- The punctuation that plainName lets by. -/
def punct : List UInt8 := [33, 35, 36, 37, 38, 40, 41, 42, 43, 45, 46, 47, 58, 59, 60, 61, 62, 63, 64, 91, 93, 94, 95, 123, 124, 125, 126, 32]

/-- The law's own test of a byte. -/
def okB (c : UInt8) : Bool := decide (32 ≤ c.toNat) && decide (c.toNat ≤ 126) && !(c.toNat == 34) && !(c.toNat == 39) && !(c.toNat == 44) && !(c.toNat == 92) && !(c.toNat == 96)
def alnum (c : UInt8) : Bool := (decide (97 ≤ c.toNat) && decide (c.toNat ≤ 122)) || (decide (65 ≤ c.toNat) && decide (c.toNat ≤ 90)) || (decide (48 ≤ c.toNat) && decide (c.toNat ≤ 57))

theorem ok_all : ∀ n : Fin 256, okB (UInt8.ofNat n.val) = (alnum (UInt8.ofNat n.val) || punct.contains (UInt8.ofNat n.val)) := by decide +kernel
theorem ok_eq (c : UInt8) : okB c = (alnum c || punct.contains c) := by
  have h := ok_all ⟨c.toNat, c.toNat_lt⟩
  simpa using h

theorem indexByte_contains (c : UInt8) : ∀ l : List UInt8, decide (0 ≤ Lib.indexByte l c) = l.contains c
  | [] => rfl
  | b :: l => by
    have ih := indexByte_contains c l
    have hge := Lib.indexByte_ge l c
    rw [Lib.indexByte, List.contains_cons]
    by_cases hb : (b == c) = true
    · have hcb : (c == b) = true := by rw [beq_iff_eq] at hb ⊢; exact hb.symm
      simp [hb, hcb]
    · have hb' : (b == c) = false := by simpa using hb
      have hcb : (c == b) = false := by rw [beq_eq_false_iff_ne] at hb' ⊢; exact fun e => hb' e.symm
      rw [hb', hcb, Bool.false_or, ← ih]
      simp only [Bool.false_eq_true, if_false]
      split
      · rename_i h
        rw [beq_iff_eq] at h
        rw [h]
      · rename_i h
        rw [beq_iff_eq] at h
        simp only [decide_eq_decide]
        omega

set_option maxHeartbeats 400000 in
set_option maxRecDepth 100000 in
theorem indexByte_lite (s : ByteArray) (cv : Int) (w : World) :
    Calls Try.prog 29 #[.string s, .int .u8 cv] w fun e w' => e = .returned (.int .i64 (Lib.indexByte s.data.toList cv.toNat.toUInt8)) ∧ w' = w := by
  go_enter Try.func29, Try.ntmps29
  go_wp2
  rw [run_callFunc_extern Try.func30 (by kernel_rfl) (by kernel_rfl) (by kernel_rfl) (e := Extern.BytealgIndexByte.indexByte) (by kernel_rfl), Lib.run_indexByteString s cv w]
  simp only [Result.andThen]
  rw [Oper.upon_value]
  go_wp2
  go_ret
  exact ⟨rfl, rfl⟩

set_option maxHeartbeats 400000 in
theorem indexByte_any (s : ByteArray) (cv : Int) (w : World) :
    Calls Try.prog 25 #[.string s, .int .u8 cv] w fun e w' => e = .returned (.int .i64 (Lib.indexByte s.data.toList cv.toNat.toUInt8)) ∧ w' = w := by
  have hcon := indexByte_lite s cv w
  go_enter Try.func25, Try.ntmps25
  go_wp2_with fail
  refine hcon.mono ?_
  rintro e w' ⟨rfl, rfl⟩
  go_wp2_with fail
  go_ret
  exact ⟨rfl, rfl⟩

/-! ### the rune's bytes -/
theorem encode_two (r : Int) (h1 : 128 ≤ r) (h2 : r < 256) : ∃ b0 b1 : UInt8, Utf8.encode r = ⟨#[b0, b1]⟩ ∧ 128 ≤ b1.toNat := by
  have hv : Utf8.valid r = true := by rw [validRune_eq]; unfold validRune; simp; omega
  have hc : ¬ r.toNat < 128 := by omega
  have hc2 : r.toNat < 2048 := by omega
  refine ⟨UInt8.ofNat (192 + r.toNat / 64), UInt8.ofNat (128 + r.toNat % 64), ?_, ?_⟩
  · unfold Utf8.encode
    simp only [hv, if_true, hc, if_false, hc2]
  · simp; omega

set_option maxHeartbeats 400000 in
theorem validRune_hi (r : Int) (h1 : 128 ≤ r) (h2 : r < 256) (w : World) :
    Calls Try.prog 26 #[.int .i32 r] w fun e w' => e = .returned (.bool true) ∧ w' = w := by
  go_enter Try.func26, Try.ntmps26
  go_wp2
  go_ret
  exact ⟨rfl, rfl⟩

set_option maxHeartbeats 1000000 in
set_option maxRecDepth 100000 in
theorem indexRune_hi (r : Int) (h1 : 128 ≤ r) (h2 : r < 256) (w : World) :
    Calls Try.prog 24 #[.string ⟨#[33, 35, 36, 37, 38, 40, 41, 42, 43, 45, 46, 47, 58, 59, 60, 61, 62, 63, 64, 91, 93, 94, 95, 123, 124, 125, 126, 32]⟩, .int .i32 r] w fun e w' => e = .returned (.int .i64 (-1)) ∧ ∃ q, w' = w.drewN q := by
  obtain ⟨b0, b1, henc, hb1⟩ := encode_two r h1 h2
  have hvr := validRune_hi r h1 h2 w
  go_enter Try.func24, Try.ntmps24
  go_wp2_with fail
  refine hvr.mono ?_
  rintro e w' ⟨rfl, hw'⟩
  subst hw'
  go_wp2_with fail
  go_step3
  go_wp2_with fail
  refine wp_loop_rounds 1 ?_
  rw [rounds_succ]
  have hne : ((((⟨#[33, 35, 36, 37, 38, 40, 41, 42, 43, 45, 46, 47, 58, 59, 60, 61, 62, 63, 64, 91, 93, 94, 95, 123, 124, 125, 126, 32]⟩ : ByteArray)[1]'(by decide)).toNat : Int) != (((⟨#[b0, b1]⟩ : ByteArray)[1]'(by show 1 < 2; decide)).toNat : Int)) = true := by
    show ((35 : Int) != (b1.toNat : Int)) = true
    rw [bne_iff_ne]; omega
  go_wp2_with fail
  go_step3
  go_wp2_with fail
  have hw2 : IntKind.i64.wrap 2 = 2 := by decide
  go_quiet (fail)
  go_wp2_with fail
  go_quiet ((go_at_call 25; exact (indexByte_any _ _ _).mono fun _ _ ⟨he, hm⟩ => ⟨he, _, hm⟩))
  have hix : Lib.indexByte ((⟨#[33, 35, 36, 37, 38, 40, 41, 42, 43, 45, 46, 47, 58, 59, 60, 61, 62, 63, 64, 91, 93, 94, 95, 123, 124, 125, 126, 32]⟩ : ByteArray).extract 2 28).data.toList ((((⟨#[b0, b1]⟩ : ByteArray)[1]'(by show 1 < 2; decide)).toNat : Int)).toNat.toUInt8 = -1 := by
    show Lib.indexByte [36, 37, 38, 40, 41, 42, 43, 45, 46, 47, 58, 59, 60, 61, 62, 63, 64, 91, 93, 94, 95, 123, 124, 125, 126, 32] ((b1.toNat : Int)).toNat.toUInt8 = -1
    rw [Int.toNat_natCast]
    have hc : ∀ n : Fin 256, 128 ≤ n.val → Lib.indexByte [36, 37, 38, 40, 41, 42, 43, 45, 46, 47, 58, 59, 60, 61, 62, 63, 64, 91, 93, 94, 95, 123, 124, 125, 126, 32] (UInt8.ofNat n.val) = -1 := by decide +kernel
    have h := hc ⟨b1.toNat, b1.toNat_lt⟩ hb1
    exact h
  rw [hix]
  go_wp2_with fail
  rw [Exit.noGoto_ret]
  go_wp2_with fail
  rw [Exit.noGoto_ret]
  go_ret
  exact ⟨rfl, _, rfl⟩

set_option maxHeartbeats 1000000 in
set_option maxRecDepth 100000 in
theorem indexRune_lo (s : ByteArray) (r : Int) (h1 : 0 ≤ r) (h2 : r < 128) (w : World) :
    Calls Try.prog 24 #[.string s, .int .i32 r] w fun e w' => e = .returned (.int .i64 (Lib.indexByte s.data.toList r.toNat.toUInt8)) ∧ ∃ q, w' = w.drewN q := by
  have hw : IntKind.u8.wrap r = r := by
    have hm : r % 256 = r := by omega
    unfold IntKind.wrap
    simp [IntKind.bits, IntKind.signed, hm]
  have hcon := indexByte_any s r w
  go_enter Try.func24, Try.ntmps24
  go_wp2_with fail
  refine hcon.mono ?_
  rintro e w' ⟨rfl, rfl⟩
  go_wp2_with fail
  go_ret
  exact ⟨rfl, 0, rfl⟩

theorem natInt (c : UInt8) : ((c.toNat : Int)).toNat.toUInt8 = c := by
  rw [Int.toNat_natCast]; simp

set_option maxHeartbeats 1000000 in
set_option maxRecDepth 100000 in
theorem plainByte_any (c : UInt8) (w : World) :
    Calls Try.prog 17 #[.int .u8 c.toNat] w fun e w' => e = .returned (.bool (okB c)) ∧ w' = w := by
  have hc := c.toNat_lt
  obtain ⟨n, hn⟩ : ∃ n : Int, n = (c.toNat : Int) := ⟨_, rfl⟩
  have HN : Hid (n = (c.toNat : Int)) := hn
  have hkT : Hid ((32 ≤ n ∧ n ≤ 126 ∧ n ≠ 34 ∧ n ≠ 39 ∧ n ≠ 44 ∧ n ≠ 92 ∧ n ≠ 96) → okB c = true) := by
    intro hb
    unfold okB; simp; omega
  have hkF : Hid (¬ (32 ≤ n ∧ n ≤ 126 ∧ n ≠ 34 ∧ n ≠ 39 ∧ n ≠ 44 ∧ n ≠ 92 ∧ n ≠ 96) → okB c = false) := by
    intro hb
    rw [Bool.eq_false_iff]
    intro h
    unfold okB at h; simp at h; omega
  rw [← hn]
  clear hn hc
  go_enter Try.func17, Try.ntmps17
  go_wp2_with fail
  all_goals go_ret
  all_goals refine ⟨?_, rfl⟩
  all_goals first
    | (rw [hkF.out (by omega)] <;> rfl)
    | (rw [hkT.out (by omega)] <;> rfl)
    | (simp only [beq_iff_eq, beq_eq_false_iff_ne] at *
       first
         | (rw [hkF.out (by omega)] <;> rfl)
         | (rw [hkT.out (by omega)] <;> rfl))

/-! ### ContainsRune, plainName -/
set_option maxHeartbeats 1000000 in
set_option maxRecDepth 100000 in
theorem containsRune_any (c : UInt8) (w : World) :
    Calls Try.prog 23 #[.string ⟨#[33, 35, 36, 37, 38, 40, 41, 42, 43, 45, 46, 47, 58, 59, 60, 61, 62, 63, 64, 91, 93, 94, 95, 123, 124, 125, 126, 32]⟩, .int .i32 c.toNat] w fun e w' => e = .returned (.bool (punct.contains c)) ∧ ∃ q, w' = w.drewN q := by
  have hc := c.toNat_lt
  by_cases h : c.toNat < 128
  · have hcon := indexRune_lo ⟨#[33, 35, 36, 37, 38, 40, 41, 42, 43, 45, 46, 47, 58, 59, 60, 61, 62, 63, 64, 91, 93, 94, 95, 123, 124, 125, 126, 32]⟩ c.toNat (by omega) (by omega) w
    have HI : Hid (decide (0 ≤ Lib.indexByte (⟨#[33, 35, 36, 37, 38, 40, 41, 42, 43, 45, 46, 47, 58, 59, 60, 61, 62, 63, 64, 91, 93, 94, 95, 123, 124, 125, 126, 32]⟩ : ByteArray).data.toList ((c.toNat : Int)).toNat.toUInt8) = punct.contains c) := by
      show _ = _
      rw [natInt]
      exact indexByte_contains c punct
    generalize Lib.indexByte (⟨#[33, 35, 36, 37, 38, 40, 41, 42, 43, 45, 46, 47, 58, 59, 60, 61, 62, 63, 64, 91, 93, 94, 95, 123, 124, 125, 126, 32]⟩ : ByteArray).data.toList ((c.toNat : Int)).toNat.toUInt8 = o at *
    go_enter Try.func23, Try.ntmps23
    go_wp2_with fail
    refine hcon.mono ?_
    rintro e w' ⟨rfl, q, rfl⟩
    go_wp2_with fail
    go_ret
    exact ⟨by rw [← HI.out] <;> rfl, q, rfl⟩
  · have hcon := indexRune_hi c.toNat (by omega) (by omega) w
    have HI : Hid (punct.contains c = false) := by
      have hd : ∀ n : Fin 256, 128 ≤ n.val → punct.contains (UInt8.ofNat n.val) = false := by decide +kernel
      have h2 := hd ⟨c.toNat, hc⟩ (by simpa using h)
      show _ = _
      simpa using h2
    go_enter Try.func23, Try.ntmps23
    go_wp2_with fail
    refine hcon.mono ?_
    rintro e w' ⟨rfl, q, rfl⟩
    go_wp2_with fail
    go_ret
    exact ⟨by rw [HI.out] <;> rfl, q, rfl⟩

end Go.Proofs.Qxb6602169a
