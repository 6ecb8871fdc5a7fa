/-
  zzb1HasAt, zzb1IndexFrom; where the needle first stands in the line; cutPrefix where it does not fit.
-/
import Derived.Test.Qxb6602174aCuts
import Derived.OwnWalk
import Derived.Lib.Index
namespace Go.Proofs.Qxb6602174a
set_option linter.unusedVariables false
set_option linter.unusedSimpArgs false
open Go.RowKit

/-! ### the plain law -/
def nd : List UInt8 := [123, 34, 116, 121, 112, 101, 34, 58, 34, 82, 101, 97, 100, 121, 34, 44, 34, 115, 116, 97, 116, 117, 115, 34, 58, 34]

theorem nd_once : ∀ d : Fin 26, 0 < d.val → nd[d.val]? ≠ some 123 := by decide

theorem index_line (P R : List UInt8) (hP : ∀ i, i + 26 ≤ P.length → Lib.occAt P nd i = false) : Lib.index (P ++ (nd ++ R)) nd = (P.length : Int) := by
  refine Lib.index_first (by simp) ?_ ?_
  · unfold Lib.occAt
    rw [List.drop_left, List.isPrefixOf_iff_prefix]
    exact List.prefix_append _ _
  · intro j hj
    rw [Bool.eq_false_iff]
    intro hocc
    unfold Lib.occAt at hocc
    rw [List.isPrefixOf_iff_prefix] at hocc
    obtain ⟨t, ht⟩ := hocc
    rcases Nat.lt_or_ge P.length (j + 26) with h | h
    · have e1 : ((P ++ (nd ++ R)).drop j)[P.length - j]? = some 123 := by
        rw [List.getElem?_drop, show j + (P.length - j) = P.length by omega, List.getElem?_append_right (Nat.le_refl _), Nat.sub_self]
        rfl
      rw [← ht, List.getElem?_append_left (by show P.length - j < 26; omega)] at e1
      exact nd_once ⟨P.length - j, by omega⟩ (by show 0 < P.length - j; omega) e1
    · have hf := hP j h
      have e2 : Lib.occAt P nd j = true := by
        rw [Lib.occAt_iff_take P nd j h]
        have e3 : (((P ++ (nd ++ R)).drop j).take 26) = (P.drop j).take 26 := by
          rw [List.drop_append_of_le_length (by omega), List.take_append_of_le_length (by simp; omega)]
        rw [← ht] at e3
        have e4 : (nd ++ t).take 26 = nd := List.take_left' rfl
        rw [e4] at e3
        show ((P.drop j).take 26 == nd) = true
        rw [← e3]
        simp
      rw [hf] at e2
      cases e2

/-! ### zzb1HasAt -/
theorem getD_eq (l : List UInt8) (i : Nat) (h : i < l.length) : l.getD i 0 = l[i] := by simp [List.getD, h]

theorem occ_step (l f : List UInt8) (i k : Nat) (hk : k < f.length) (hi : i + f.length ≤ l.length) (h : (l.drop i).take k = f.take k) (he : l.getD (i + k) 0 = f[k]) : (l.drop i).take (k + 1) = f.take (k + 1) := by
  rw [List.take_succ_eq_append_getElem (by simp; omega), List.take_succ_eq_append_getElem hk, h, ← he, getD_eq l (i + k) (by omega)]
  simp

theorem occ_not (l f : List UInt8) (i k : Nat) (hk : k < f.length) (hi : i + f.length ≤ l.length) (he : l.getD (i + k) 0 ≠ f[k]) : Lib.occAt l f i = false := by
  rw [Lib.occAt_iff_take l f i hi, beq_eq_false_iff_ne]
  intro h
  apply he
  have e : ((l.drop i).take f.length)[k]? = f[k]? := by rw [h]
  rw [List.getElem?_take, if_pos hk, List.getElem?_drop, List.getElem?_eq_getElem hk, List.getElem?_eq_getElem (by omega)] at e
  rw [getD_eq l (i + k) (by omega)]
  exact Option.some.inj e

theorem byte_ne (c d : UInt8) : (((c.toNat : Int)) != (d.toNat : Int)) = !(c == d) := by
  rw [Bool.eq_iff_iff, bne_iff_ne]
  simp only [Bool.not_eq_true', beq_eq_false_iff_ne]
  constructor
  · intro h e; exact h (by rw [e])
  · intro h e; exact h (UInt8.toNat_inj.1 (by omega))

set_option maxHeartbeats 1000000 in
set_option maxRecDepth 100000 in
theorem hasAt_any (b cap i : Nat) (l : List UInt8) (F : ByteArray) (w : World) (h : At w b 0 l) (hi : i + F.size ≤ l.length) (hl : l.length ≤ 65536) :
    Calls Try.prog 16 #[.slice (some ⟨b, 0, none⟩) l.length cap, .int .i64 i, .string F] w fun e w' => e = .returned (.bool (Lib.occAt l F.data.toList i)) ∧ ∃ q, w' = w.drewN q := by
  have hfl : F.data.toList.length = F.size := by simp
  have HAT : Hid (At w b 0 l) := h
  clear h
  go_enter Try.func16, Try.ntmps16
  go_wp2_with fail
  go_loopw [7] (fun kv wr => ∃ k : Nat, k ≤ F.size ∧ kv = .int .i64 k ∧ (l.drop i).take k = F.data.toList.take k ∧ ∃ q, wr = w.drewN q) (fun kv _ => F.size - (intOf kv).toNat)
  case atStart => exact ⟨0, Nat.zero_le _, rfl, by simp, 0, rfl⟩
  case round =>
    obtain ⟨k, hk, rfl, hall, q, rfl⟩ := hrel
    by_cases hlt : k < F.size
    · have hcell : w.cell? ⟨b, i + k, none⟩ = some (.int .u8 ((l.getD (i + k) 0).toNat : Int)) := by
        have := HAT.out (i + k) (by omega)
        rwa [Nat.zero_add] at this
      have hFk : F.data.toList[k]'(by omega) = F[k]'hlt := by simp; rfl
      have HS : Hid (l.getD (i + k) 0 = F[k]'hlt → (l.drop i).take (k + 1) = F.data.toList.take (k + 1)) := fun he => occ_step l F.data.toList i k (by omega) (by omega) hall (he.trans hFk.symm)
      have HN : Hid (l.getD (i + k) 0 ≠ F[k]'hlt → Lib.occAt l F.data.toList i = false) := fun he => occ_not l F.data.toList i k (by omega) (by omega) (fun e => he (e.trans hFk))
      have hw : IntKind.i64.wrap ((i : Int) + (k : Int)) = (i : Int) + (k : Int) := wrap_small _ (by omega) (by omega)
      have hlt2 : (i : Int) + (k : Int) < (l.length : Int) := by omega
      clear hall hFk hfl
      generalize l.getD (i + k) 0 = x at *
      by_cases hx : x = F[k]'hlt
      · have hne : ((x.toNat : Int) != ((F[k]'hlt).toNat : Int)) = false := by rw [byte_ne, hx]; simp
        go_wp2_with fail
        go_quiet (fail)
        go_wp2_with fail
        go_roundw
        case rel => exact ⟨k + 1, by omega, by go_num, HS.out hx, q + nq, rfl⟩
        case measure => simp [intOf]; omega
      · have hne : ((x.toNat : Int) != ((F[k]'hlt).toNat : Int)) = true := by rw [byte_ne]; simpa using hx
        go_wp2_with fail
        go_quiet (fail)
        go_wp2_with fail
        go_ret
        exact ⟨by rw [HN.out hx] <;> rfl, q + nq, by rw [World.drewN_drewN]⟩
    · have hkn : k = F.size := by omega
      subst hkn
      have HA : Hid (Lib.occAt l F.data.toList i = true) := by
        show _ = _
        rw [Lib.occAt_iff_take l F.data.toList i (by omega), hfl, hall, List.take_of_length_le (by omega)]
        simp
      go_wp2_with fail
      go_ret
      exact ⟨by rw [HA.out] <;> rfl, q, rfl⟩

/-! ### zzb1IndexFrom from 0 -/
set_option maxHeartbeats 1000000 in
set_option maxRecDepth 100000 in
theorem indexFrom_any (b cap : Nat) (l : List UInt8) (F : ByteArray) (w : World) (h : At w b 0 l) (hl : l.length ≤ 65536) (hF : F.size ≤ 64) :
    Calls Try.prog 15 #[.slice (some ⟨b, 0, none⟩) l.length cap, .int .i64 0, .string F] w fun e w' =>
      (∃ r : Int, e = .returned (.int .i64 r) ∧ (r < 0 → ∀ j, j + F.size ≤ l.length → Lib.occAt l F.data.toList j = false)) ∧ ∃ q, w' = w.drewN q := by
  have HC : Hid (∀ i q, i + F.size ≤ l.length → Calls Try.prog 16 #[.slice (some ⟨b, 0, none⟩) l.length cap, .int .i64 (i : Nat), .string F] (w.drewN q) fun e w' => e = .returned (.bool (Lib.occAt l F.data.toList i)) ∧ ∃ q', w' = (w.drewN q).drewN q') :=
    fun i q hi => hasAt_any b cap i l F (w.drewN q) (h.drewN q) hi hl
  clear h
  go_enter Try.func15, Try.ntmps15
  go_wp2_with fail
  go_loopw [7] (fun iv wr => ∃ i : Nat, i ≤ l.length + 1 ∧ iv = .int .i64 i ∧ (∀ j, j < i → Lib.occAt l F.data.toList j = false) ∧ ∃ q, wr = w.drewN q) (fun iv _ => l.length + 1 - (intOf iv).toNat)
  case atStart => exact ⟨0, Nat.zero_le _, rfl, fun j hj => absurd hj (Nat.not_lt_zero _), 0, rfl⟩
  case round =>
    obtain ⟨i, hi, rfl, hall, q, rfl⟩ := hrel
    have HALL : Hid (∀ j, j < i → Lib.occAt l F.data.toList j = false) := hall
    clear hall
    by_cases hlt : i + F.size ≤ l.length
    · have hcon := HC.out i q hlt
      have hlt2 : (i : Int) + (F.size : Int) ≤ (l.length : Int) := by omega
      obtain ⟨x, hx⟩ : ∃ x, Lib.occAt l F.data.toList i = x := ⟨_, rfl⟩
      rw [hx] at hcon
      have HX : Hid (Lib.occAt l F.data.toList i = x) := hx
      clear hx
      go_wp2_with fail
      refine hcon.mono ?_
      rintro e w' ⟨rfl, q', hw'⟩
      rw [World.drewN_drewN] at hw'
      subst hw'
      cases x with
      | true =>
        go_wp2_with fail
        go_ret
        exact ⟨⟨i, rfl, fun hneg => absurd hneg (by omega)⟩, q + q', rfl⟩
      | false =>
        go_wp2_with fail
        go_roundw
        case rel =>
          refine ⟨i + 1, by omega, by go_num, fun j hj => ?_, q + q', rfl⟩
          rcases Nat.lt_or_ge j i with h' | h'
          · exact HALL.out j h'
          · obtain rfl : j = i := by omega
            exact HX.out
        case measure => simp [intOf]; omega
    · have hlt2 : (l.length : Int) < (i : Int) + (F.size : Int) := by omega
      go_wp2_with fail
      go_ret
      exact ⟨⟨-1, rfl, fun _ j hj => HALL.out j (by omega)⟩, q, rfl⟩

/-! ### cutPrefix where the prefix does not stand -/
set_option maxHeartbeats 800000 in
set_option maxRecDepth 100000 in
theorem cutPrefix_no (b o c n : Nat) (F : ByteArray) (l : List UInt8) (w : World) (h : At w b o l) (hn : l.length = n) (hnc : n ≤ c) (hm : c ≤ 2097152) (hp : F.data.toList.isPrefixOf l = false) :
    Calls Try.prog 27 #[.slice (some ⟨b, o, none⟩) n c, .string F] w fun e w' =>
      (∃ v, e = .returned (.tuple #[v, .bool false])) ∧ w' = w := by
  have hl : F.data.toList.length = F.size := by simp
  by_cases hlt : n < F.size
  · have hlt2 : (n : Int) < (F.size : Int) := by omega
    clear h hp
    go_enter Try.func27, Try.ntmps27
    go_wp2_with fail
    go_ret2
    exact ⟨⟨_, rfl⟩, rfl⟩
  · have hlt2 : ¬ ((n : Int) < (F.size : Int)) := by omega
    have htl : (l.take F.size).length = F.size := by simp; omega
    have hconv := run_convert_bytes_back (P := Try.prog) w 22 9 5 ⟨b, o, none⟩ c (l.take F.size) Try.underlying22 Try.underlying5 Try.underlying9 (fun j hj => by
      have e : (⟨b, o, none⟩ : Addr).add j = ⟨b, o + j, none⟩ := by unfold Addr.add; split <;> simp_all
      have hj' : j < F.size := by omega
      rw [e, h j (by omega), List.getD, List.getElem?_eq_getElem (by omega)]; simp)
    rw [htl] at hconv
    have hne : ((l.take F.size) == F.data.toList) = false := by
      rw [beq_eq_false_iff_ne]
      intro e
      have : F.data.toList.isPrefixOf l = true := by
        rw [List.isPrefixOf_iff_prefix]
        exact ⟨l.drop F.size, by rw [← e, List.take_append_drop]⟩
      rw [hp] at this
      cases this
    obtain ⟨G, hG⟩ : ∃ G : ByteArray, G = ⟨(l.take F.size).toArray⟩ := ⟨_, rfl⟩
    have hne2 : (G.toList == F.toList) = false := by
      rw [ByteArray.toList_eq, ByteArray.toList_eq, hG]
      exact hne
    rw [← hG] at hconv
    clear h hp hG hne htl hl
    go_enter Try.func27, Try.ntmps27
    go_wp2_with fail
    go_ret2
    exact ⟨⟨_, rfl⟩, rfl⟩

end Go.Proofs.Qxb6602174a
