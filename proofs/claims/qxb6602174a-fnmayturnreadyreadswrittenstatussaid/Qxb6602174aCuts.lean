/-
  bytes.IndexByte, cutPrefix, cutString, cutStringBefore at a slice whose bytes are known.
-/
import Derived.Test.Qxb6602174aProg
import Derived.WalkKit
import Derived.WalkSpells
import Derived.WalkLawsBesides
import Derived.Deep.QuietTactic
import Derived.BigQuiet
import Derived.Lib.BytesEntry
import Derived.Laws.Externs
import Derived.Laws.IdiomStrings
namespace Go.Proofs.Qxb6602174a
set_option linter.unusedVariables false
set_option linter.unusedSimpArgs false
open Go.RowKit

/-- The bytes l lie at b, from o on. -/
def At (w : World) (b o : Nat) (l : List UInt8) : Prop := ∀ i, i < l.length → w.cell? ⟨b, o + i, none⟩ = some (.int .u8 ((l.getD i 0).toNat : Int))

theorem At.right {w : World} {b o : Nat} {l r : List UInt8} (h : At w b o (l ++ r)) : At w b (o + l.length) r := fun i hi => by
  have := h (l.length + i) (by simp; omega)
  have e : (l ++ r).getD (l.length + i) 0 = r.getD i 0 := by
    simp [List.getD, List.getElem?_append_right (Nat.le_add_right l.length i)]
  rw [Nat.add_assoc, this, e]
theorem At.left {w : World} {b o : Nat} {l r : List UInt8} (h : At w b o (l ++ r)) : At w b o l := fun i hi => by
  rw [h i (by simp; omega)]
  simp [List.getD, List.getElem?_append_left hi]
theorem At.drewN {w : World} {b o : Nat} {l : List UInt8} (h : At w b o l) (q : Nat) : At (w.drewN q) b o l := h

theorem bytesOf_nums (l : List UInt8) : Lib.bytesOf (l.map fun c => (c.toNat : Int)) = l := by
  simp [Lib.bytesOf, Function.comp_def]

theorem indexByte_hit (c : UInt8) (R : List UInt8) : ∀ A : List UInt8, A.contains c = false → Lib.indexByte (A ++ c :: R) c = (A.length : Int)
  | [], _ => by simp [Lib.indexByte]
  | x :: A, h => by
    rw [List.contains_cons, Bool.or_eq_false_iff] at h
    have hx : (x == c) = false := by
      have h1 := h.1
      rw [beq_eq_false_iff_ne] at h1 ⊢
      exact fun e => h1 e.symm
    have ih := indexByte_hit c R A h.2
    rw [List.cons_append, Lib.indexByte, hx, ih]
    have hne : ((A.length : Int) == -1) = false := by rw [beq_eq_false_iff_ne]; omega
    simp [hne]
theorem indexByte_miss (c : UInt8) : ∀ A : List UInt8, A.contains c = false → Lib.indexByte A c = -1
  | [], _ => rfl
  | x :: A, h => by
    rw [List.contains_cons, Bool.or_eq_false_iff] at h
    have hx : (x == c) = false := by
      have h1 := h.1
      rw [beq_eq_false_iff_ne] at h1 ⊢
      exact fun e => h1 e.symm
    rw [Lib.indexByte, hx, indexByte_miss c A h.2]
    rfl

set_option maxHeartbeats 800000 in
set_option maxRecDepth 100000 in
theorem indexByte_any (b o c : Nat) (l : List UInt8) (cv : Int) (w : World) (h : At w b o l) :
    Calls Try.prog 28 #[.slice (some ⟨b, o, none⟩) l.length c, .int .u8 cv] w fun e w' => e = .returned (.int .i64 (Lib.indexByte l cv.toNat.toUInt8)) ∧ w' = w := by
  have hr := Lib.run_indexByteSlice (P := Try.prog) w b o l.length c (l.map fun c => (c.toNat : Int)) (by simp) (fun i hi => by
    rw [h i hi]; simp [List.getD, hi]) cv
  rw [bytesOf_nums] at hr
  clear h
  go_enter Try.func28, Try.ntmps28
  go_wp2
  rw [run_callFunc_extern Try.func33 (by kernel_rfl) (by kernel_rfl) (by kernel_rfl) (e := Extern.BytealgIndexByte.indexByte) (by kernel_rfl), hr]
  simp only [Result.andThen]
  rw [Oper.upon_value]
  go_wp2
  go_ret
  exact ⟨rfl, rfl⟩

/-- No quote and no backslash. -/
def bareL (l : List UInt8) : Bool := !(l.contains 34) && !(l.contains 92)

set_option maxHeartbeats 800000 in
set_option maxRecDepth 100000 in
theorem cutString_any (b o c n r d : Nat) (A R : List UInt8) (w : World) (hA : bareL A = true) (h : At w b o (A ++ 34 :: R)) (hn : A.length + 1 + R.length = n) (hnc : n ≤ c) (hc : A.length + 1 < c) (hm : c ≤ 2097152)
    (hr : o + (A.length + 1) = r) (hd : c - (A.length + 1) = d) :
    Calls Try.prog 24 #[.slice (some ⟨b, o, none⟩) n c] w fun e w' =>
      e = .returned (.tuple #[.slice (some ⟨b, o, none⟩) A.length c, .slice (some ⟨b, r, none⟩) R.length d, .bool true]) ∧ ∃ q, w' = w.drewN q := by
  obtain ⟨h34, h92⟩ : A.contains 34 = false ∧ A.contains 92 = false := by simpa [bareL] using hA
  have hlen : (A ++ 34 :: R).length = n := by simp; omega
  have hcon := indexByte_any b o c (A ++ 34 :: R) 34 w h
  rw [hlen, show Lib.indexByte (A ++ 34 :: R) (34 : Int).toNat.toUInt8 = (A.length : Int) from indexByte_hit 34 R A h34] at hcon
  have hcon2 := indexByte_any b o c A 92 w h.left
  rw [show Lib.indexByte A (92 : Int).toNat.toUInt8 = -1 from indexByte_miss 92 A h92] at hcon2
  have hne : ¬ c = A.length + 1 := by omega
  have hsub : n - (A.length + 1) = R.length := by omega
  clear h hA h34 h92 hlen
  subst hr hd
  generalize A.length = i at *
  generalize R.length = m at *
  go_enter Try.func24, Try.ntmps24
  go_wp2_with fail
  refine hcon.mono ?_
  rintro e w' ⟨rfl, rfl⟩
  go_wp2_with fail
  refine hcon2.mono ?_
  rintro e w' ⟨rfl, rfl⟩
  go_wp2_with fail
  go_quiet (fail)
  go_wp2_with fail
  go_ret3
  exact ⟨by simp [hne, hsub], _, rfl⟩

set_option maxHeartbeats 800000 in
set_option maxRecDepth 100000 in
theorem cutPrefix_any (b o c n r d : Nat) (F : ByteArray) (R : List UInt8) (w : World) (h : At w b o (F.data.toList ++ R)) (hn : F.size + R.length = n) (hnc : n ≤ c) (hc : F.size < c) (hm : c ≤ 2097152)
    (hr : o + F.size = r) (hd : c - F.size = d) :
    Calls Try.prog 27 #[.slice (some ⟨b, o, none⟩) n c, .string F] w fun e w' =>
      e = .returned (.tuple #[.slice (some ⟨b, r, none⟩) R.length d, .bool true]) ∧ w' = w := by
  have hl : F.data.toList.length = F.size := by simp
  have hconv := run_convert_bytes_back (P := Try.prog) w 22 9 5 ⟨b, o, none⟩ c F.data.toList Try.underlying22 Try.underlying5 Try.underlying9 (fun j hj => by
    have e : (⟨b, o, none⟩ : Addr).add j = ⟨b, o + j, none⟩ := by unfold Addr.add; split <;> simp_all
    rw [e, h.left j hj, List.getD, List.getElem?_eq_getElem hj]; rfl)
  have hF : (⟨F.data.toList.toArray⟩ : ByteArray) = F := by simp
  rw [hF, hl] at hconv
  have hne : ¬ c = F.size := by omega
  have hsub : n - F.size = R.length := by omega
  clear h hl hF
  subst hr hd
  generalize R.length = m at *
  go_enter Try.func27, Try.ntmps27
  go_wp2_with fail
  go_ret2
  exact ⟨by simp [hne, hsub], rfl⟩

set_option maxHeartbeats 800000 in
set_option maxRecDepth 100000 in
theorem cutBefore_any (b o c n r d : Nat) (A R : List UInt8) (F : ByteArray) (w : World) (hA : bareL A = true) (h : At w b o (A ++ 34 :: (F.data.toList ++ R))) (hn : A.length + 1 + F.size + R.length = n) (hnc : n ≤ c) (hc : A.length + 1 + F.size < c) (hm : c ≤ 2097152)
    (hr : o + (A.length + 1 + F.size) = r) (hd : c - (A.length + 1 + F.size) = d) :
    Calls Try.prog 23 #[.slice (some ⟨b, o, none⟩) n c, .string F] w fun e w' =>
      (∃ v, e = .returned (.tuple #[v, .slice (some ⟨b, r, none⟩) R.length d, .bool true])) ∧ ∃ q, w' = w.drewN q := by
  have hcon := cutString_any b o c n _ _ A (F.data.toList ++ R) w hA h (by simp; omega) hnc (by omega) hm rfl rfl
  have h2 : At w b (o + (A.length + 1)) (F.data.toList ++ R) := by
    have h3 : At w b o ((A ++ [34]) ++ (F.data.toList ++ R)) := by simpa using h
    simpa using h3.right
  have hcon2 := fun q => cutPrefix_any b (o + (A.length + 1)) (c - (A.length + 1)) (F.size + R.length) r d F R (w.drewN q) (h2.drewN q) rfl (by omega) (by omega) (by omega) (by omega) (by omega)
  have HC : Hid (∀ q, Calls Try.prog 27 #[.slice (some ⟨b, o + (A.length + 1), none⟩) (F.size + R.length) (c - (A.length + 1)), .string F] (w.drewN q) fun e w' =>
      e = .returned (.tuple #[.slice (some ⟨b, r, none⟩) R.length d, .bool true]) ∧ w' = w.drewN q) := hcon2
  have hl : (F.data.toList ++ R).length = F.size + R.length := by simp
  rw [hl] at hcon
  clear h h2 hcon2 hA hl hn hnc hc hr hd
  generalize R.length = m at *
  generalize A.length = i at *
  go_enter Try.func23, Try.ntmps23
  go_wp2_with fail
  refine hcon.mono ?_
  rintro e w' ⟨rfl, q, rfl⟩
  go_wp2_with fail
  refine (HC.out q).mono ?_
  rintro e w' ⟨rfl, rfl⟩
  go_wp2_with fail
  go_ret3
  exact ⟨⟨_, rfl⟩, q, rfl⟩

end Go.Proofs.Qxb6602174a
