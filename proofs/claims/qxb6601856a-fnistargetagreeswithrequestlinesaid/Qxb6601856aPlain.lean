/-
  Plain laws on lists: where the first space stands.
-/
import Derived.Lib.BytesEntry
namespace Go.Proofs.Qxb6601856a
set_option linter.unusedVariables false
set_option linter.unusedSimpArgs false

/-- Where the first space stands in the list, or its length. -/
def sp : List Int → Nat
  | [] => 0
  | x :: l => if x = 32 then 0 else sp l + 1

theorem sp_le : ∀ zs : List Int, sp zs ≤ zs.length
  | [] => Nat.le_refl _
  | x :: l => by
    have := sp_le l
    unfold sp
    split
    · exact Nat.zero_le _
    · simp; omega

theorem mem_of_sp : ∀ zs : List Int, sp zs < zs.length → (32 : Int) ∈ zs
  | [], h => by simp [sp] at h
  | x :: l, h => by
    unfold sp at h
    by_cases hx : x = 32
    · simp [hx]
    · rw [if_neg hx] at h
      have := mem_of_sp l (by simpa using h)
      simp [this]

theorem byte_eq (x : Int) (h : 0 ≤ x ∧ x < 256) : (UInt8.ofNat x.toNat == 32) = decide (x = 32) := by
  obtain ⟨n, rfl⟩ := Int.eq_ofNat_of_zero_le h.1
  rw [Bool.eq_iff_iff, beq_iff_eq, decide_eq_true_eq, ← UInt8.toNat_inj]
  have : n < 256 := by omega
  simp [Nat.mod_eq_of_lt this]
  omega

theorem indexByte_sp (t : List Int) : ∀ zs : List Int, (∀ x ∈ zs, 0 ≤ x ∧ x < 256) → Lib.indexByte (Lib.bytesOf (zs ++ 32 :: t)) (32 : Int).toNat.toUInt8 = (sp zs : Int)
  | [], _ => by
    simp [Lib.bytesOf, Lib.indexByte, sp]
  | x :: l, h => by
    have hx := h x (List.mem_cons_self ..)
    have ih := indexByte_sp t l (fun y hy => h y (List.mem_cons_of_mem _ hy))
    have e : Lib.bytesOf (x :: l ++ 32 :: t) = UInt8.ofNat x.toNat :: Lib.bytesOf (l ++ 32 :: t) := rfl
    have hb := byte_eq x hx
    rw [e, Lib.indexByte, ih]
    have h32 : ((32 : Int).toNat.toUInt8) = 32 := by decide
    rw [h32, hb]
    have es : sp (x :: l) = if x = 32 then 0 else sp l + 1 := rfl
    rw [es]
    by_cases h0 : x = 32
    · simp [h0]
    · have hne : (((sp l : Nat) : Int) == -1) = false := by rw [beq_eq_false_iff_ne]; omega
      simp [h0, hne]

end Go.Proofs.Qxb6601856a
