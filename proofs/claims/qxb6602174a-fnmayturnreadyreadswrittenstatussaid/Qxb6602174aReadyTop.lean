/-
  The law's own walk: the line is built, and mayTurnReady reads it.
-/
import Derived.Test.Qxb6602174aReady
import Derived.Test.Qxb6602174aKeyTop
namespace Go.Proofs.Qxb6602174a
set_option linter.unusedVariables false
set_option linter.unusedSimpArgs false
open Go.RowKit

theorem zzMayTurn (G : Nat) (hix : IndexSays G) (b c n : Nat) (P T : List UInt8) (st ready : Bool) (m : Int) (w : World) (h : At w b 0 (P ++ (nd ++ (stL st ++ T)))) (hP : ∀ i, i + 26 ≤ P.length → Lib.occAt P nd i = false)
    (hn : P.length + (26 + ((stL st).length + T.length)) = n) (hnc : n < c) (hc : c ≤ 2097152) (hm : w.cell? ⟨G, 0, none⟩ = some (.int .i64 m)) (hb : b < w.heap.size) :
    Calls Try.prog 14 #[.slice (some ⟨b, 0, none⟩) n c, .bool ready] w fun e w' => e = .returned (.bool (!(st == ready))) ∧ Below w.heap.size w w' := by
  have hcon := mayTurn G hix b c n P T st ready m w h hP hn hnc hc hm hb
  generalize (!(st == ready)) = x at *
  clear hix h hP hn hnc hc hm hb
  go_enter Try.func14, Try.ntmps14
  go_wp2_with fail
  refine hcon.mono ?_
  rintro e w' ⟨rfl, hb⟩
  have HB : Hid (Below w.heap.size w w') := hb
  clear hb
  go_wp2_with fail
  go_ret
  exact ⟨rfl, HB.out⟩

theorem zzReady_yes (a0 a1 : ByteArray) (x y : Bool) (h0 : a0.size ≤ 65536) (h1 : a1.size ≤ 65536) (w : World) :
    Calls Try.prog 17 #[.string a0, .string a1, .bool x, .bool y] w fun e w' => e = .returned (.bool true) ∧ w' = w := by
  go_enter Try.func17, Try.ntmps17
  go_wp2_with fail
  go_ret
  exact ⟨rfl, rfl⟩

theorem zzReady_some (a0 a1 : ByteArray) (x y : Bool) (h0 : a0.size ≤ maxLen) (h1 : a1.size ≤ maxLen) (w : World) :
    Calls Try.prog 17 #[.string a0, .string a1, .bool x, .bool y] w fun e w' => SomeBool e ∧ w' = w := by
  have h0' : a0.size ≤ 9223372036854775807 := h0
  have h1' : a1.size ≤ 9223372036854775807 := h1
  clear h0 h1
  go_enter Try.func17, Try.ntmps17
  go_wp2_with fail
  all_goals go_ret
  all_goals exact ⟨⟨_, rfl⟩, rfl⟩

def NDS : ByteArray := ⟨#[123, 34, 116, 121, 112, 101, 34, 58, 34, 82, 101, 97, 100, 121, 34, 44, 34, 115, 116, 97, 116, 117, 115, 34, 58, 34]⟩

theorem bytes_of (a0 : ByteArray) (w : World) : ∃ (cp : Nat) (w1 : World), (convert 9 22 (.string a0)).run Try.prog w = .ok (.slice (some ⟨w.heap.size, 0, none⟩) a0.size cp) w1 ∧ At w1 w.heap.size 0 a0.data.toList ∧ Below w.heap.size w w1 := by
  refine ⟨_, _, run_bytes_of_string (P := Try.prog) w 9 22 5 a0 Try.underlying9 Try.underlying22 Try.underlying5, ?_, ?_⟩
  · intro i hi
    have hi' : i < a0.data.size := by simpa using hi
    rw [Nat.zero_add]
    have e := World.cell?_alloc_mark w.drew (bytesRow a0 (grownCap w a0.size 0 5)) 5 ((bytesRow a0 (grownCap w a0.size 0 5)).size, (bytesRow a0 (grownCap w a0.size 0 5)).size + 1) i
    refine Eq.trans e ?_
    rw [bytesRow_at a0 _ i hi', List.getD, List.getElem?_eq_getElem hi]
    simp
  · have h0 : Below w.heap.size w w.drew := (Below.refl _ w).drew
    exact h0.alloc (Nat.le_refl _) _

set_option maxHeartbeats 2000000 in
set_option maxRecDepth 100000 in
theorem ready_small (G : Nat) (hix : IndexSays G) (a0 a1 : ByteArray) (st ready : Bool) (m : Int) (w : World) (h0 : a0.size ≤ 65536) (h1 : a1.size ≤ 65536) (hm : w.cell? ⟨G, 0, none⟩ = some (.int .i64 m)) :
    Calls Try.prog 6 #[.string a0, .string a1, .bool st, .bool ready] w fun e w' => e = .returned (.bool true) ∧ Below w.heap.size w w' := by
  obtain ⟨i0, hi, hz0, hz1, hz2⟩ := info_parts info5
  have hzz := zzReady_yes a0 a1 st ready h0 h1 w
  obtain ⟨cp, w1, hkb, hat1, hbel1⟩ := bytes_of a0 w
  have hlen0 : a0.data.toList.length = a0.size := by simp
  have hif := indexFrom_any w.heap.size cp a0.data.toList NDS w1 hat1 (by omega) (by decide)
  rw [hlen0] at hif
  have hG : G < w.heap.size := block_lt_of_cell hm
  have HG : Hid (G < w.heap.size) := hG
  have HM : Hid (w.cell? ⟨G, 0, none⟩ = some (.int .i64 m)) := hm
  have HB1 : Hid (Below w.heap.size w w1) := hbel1
  clear hm hG hat1 hbel1 hlen0
  obtain ⟨cap, hcap⟩ : ∃ cap, cap = a0.size + a1.size + 64 := ⟨_, rfl⟩
  have HCAP : Hid (cap = a0.size + a1.size + 64) := hcap
  have hcap1 : 0 < cap := by omega
  have hcap2 : cap ≤ 400000 := by omega
  clear hcap
  go_enter Try.func6, Try.ntmps6
  go_wp2_with fail
  refine hzz.mono ?_
  rintro e w' ⟨rfl, hw'⟩
  have hw'' := hw'.symm
  subst hw''
  clear hzz
  go_wp2_with fail
  simp only [NDS] at hif
  refine hif.mono ?_
  rintro e w2 ⟨⟨r, rfl, hr⟩, q, hw2⟩
  have HB : Hid (Below w.heap.size w w2) := by
    rw [hw2]
    exact ⟨HB1.out.os, HB1.out.tape, HB1.out.output, HB1.out.size, HB1.out.block⟩
  have HG2 : Hid (G < w2.heap.size) := Nat.lt_of_lt_of_le HG.out HB.out.size
  have HM2 : Hid (w2.cell? ⟨G, 0, none⟩ = some (.int .i64 m)) := (HB.out.cell (p := ⟨G, 0, none⟩) HG.out).trans HM.out
  clear hw2 hif hkb HB1
  by_cases hneg : 0 ≤ r
  · clear hr
    go_wp2_with fail
    go_ret
    exact ⟨rfl, HB.out⟩
  have HNO : Hid (∀ i, i + 26 ≤ a0.data.toList.length → Lib.occAt a0.data.toList nd i = false) := fun i hi' => hr (by omega) i (by show i + 26 ≤ a0.size; simpa using hi')
  clear hr
  go_wp2_with (at_make; refine wpList_make_own _ rfl _ _ 22 rfl w2.heap.size 5 i0 (.int .u8 0) 1 Try.underlying22 hi hz0 hz1 _ _ _ cap rfl rfl (by have := HCAP.out; omega) (by rw [hz2]; omega) (by unfold maxLen; omega) (Nat.le_refl _) ?_)
  intro v0 hown0 hgrow0
  have HB0 : Hid (Below w2.heap.size w2 v0) := (Below.refl _ _).grown hgrow0 (Nat.le_refl _) (fun k hk => by cases hk)
  clear hgrow0
  cases st with
  | true =>
    go_wp2_with (at_builtin; refine Lib.wpList_append_fits_string _ rfl (.tmp 33) (.tmp 34) 22 9 rfl w2.heap.size 5 i0 Try.underlying22 Try.underlying9 hi hz1 (some ⟨w2.heap.size, 0, none⟩) 0 cap _ rfl hown0 a0 rfl (by omega) (by have := HCAP.out; omega) ?_)
    intro v1 hown1 hgrow1
    have HB1 : Hid (Below w2.heap.size w2 v1) := HB0.out.grown hgrow1 HB0.out.size (fun k hk => by cases hk; exact Nat.le_refl _)
    obtain ⟨n1, hn1⟩ : ∃ m, a0.size = m := ⟨_, rfl⟩
    rw [hn1] at hown1 ⊢
    have HN1 : Hid (a0.size = n1) := hn1
    clear hgrow1 hown0 HB0 hn1
    go_wp2_with (at_builtin; refine Lib.wpList_append_fits_string _ rfl (.tmp 36) (.const (.string ⟨#[123, 34, 116, 121, 112, 101, 34, 58, 34, 82, 101, 97, 100, 121, 34, 44, 34, 115, 116, 97, 116, 117, 115, 34, 58, 34]⟩)) 22 9 rfl w2.heap.size 5 i0 Try.underlying22 Try.underlying9 hi hz1 (some ⟨w2.heap.size, 0, none⟩) n1 cap _ rfl hown1 (⟨#[123, 34, 116, 121, 112, 101, 34, 58, 34, 82, 101, 97, 100, 121, 34, 44, 34, 115, 116, 97, 116, 117, 115, 34, 58, 34]⟩ : ByteArray) rfl (by omega) (by have := HCAP.out; have e1 := HN1.out; show n1 + 26 ≤ cap; omega) ?_)
    intro v2 hown2 hgrow2
    have hs2 : n1 + (⟨#[123, 34, 116, 121, 112, 101, 34, 58, 34, 82, 101, 97, 100, 121, 34, 44, 34, 115, 116, 97, 116, 117, 115, 34, 58, 34]⟩ : ByteArray).size = n1 + 26 := rfl
    try rw [hs2] at hown2 ⊢
    have HB2 : Hid (Below w2.heap.size w2 v2) := HB1.out.grown hgrow2 HB1.out.size (fun k hk => by cases hk; exact Nat.le_refl _)
    obtain ⟨n2, hn2⟩ : ∃ m, n1 + 26 = m := ⟨_, rfl⟩
    rw [hn2] at hown2 ⊢
    have HN2 : Hid (n1 + 26 = n2) := hn2
    clear hgrow2 hown1 HB1 hn2 hs2
    go_wp2_with (at_builtin; refine Lib.wpList_append_fits_string _ rfl (.tmp 39) (.const (.string ⟨#[84, 114, 117, 101, 34]⟩)) 22 9 rfl w2.heap.size 5 i0 Try.underlying22 Try.underlying9 hi hz1 (some ⟨w2.heap.size, 0, none⟩) n2 cap _ rfl hown2 (⟨#[84, 114, 117, 101, 34]⟩ : ByteArray) rfl (by omega) (by have := HCAP.out; have e1 := HN1.out; have e2 := HN2.out; show n2 + 5 ≤ cap; omega) ?_)
    intro v3 hown3 hgrow3
    have hs3 : n2 + (⟨#[84, 114, 117, 101, 34]⟩ : ByteArray).size = n2 + 5 := rfl
    try rw [hs3] at hown3 ⊢
    have HB3 : Hid (Below w2.heap.size w2 v3) := HB2.out.grown hgrow3 HB2.out.size (fun k hk => by cases hk; exact Nat.le_refl _)
    obtain ⟨n3, hn3⟩ : ∃ m, n2 + 5 = m := ⟨_, rfl⟩
    rw [hn3] at hown3 ⊢
    have HN3 : Hid (n2 + 5 = n3) := hn3
    clear hgrow3 hown2 HB2 hn3 hs3
    go_wp2_with (at_builtin; refine Lib.wpList_append_fits_string _ rfl (.tmp 43) (.tmp 44) 22 9 rfl w2.heap.size 5 i0 Try.underlying22 Try.underlying9 hi hz1 (some ⟨w2.heap.size, 0, none⟩) n3 cap _ rfl hown3 a1 rfl (by omega) (by have := HCAP.out; have e1 := HN1.out; have e2 := HN2.out; have e3 := HN3.out; omega) ?_)
    intro v4 hown4 hgrow4
    have HB4 : Hid (Below w2.heap.size w2 v4) := HB3.out.grown hgrow4 HB3.out.size (fun k hk => by cases hk; exact Nat.le_refl _)
    obtain ⟨n4, hn4⟩ : ∃ m, n3 + a1.size = m := ⟨_, rfl⟩
    rw [hn4] at hown4 ⊢
    have HN4 : Hid (n3 + a1.size = n4) := hn4
    clear hgrow4 hown3 HB3 hn4
    have hlen : a0.data.toList.length + (26 + ((stL true).length + a1.data.toList.length)) = n4 := by
      have e1 := HN1.out; have e2 := HN2.out; have e3 := HN3.out; have e4 := HN4.out;
      simp only [Array.length_toList]
      show a0.size + (26 + (5 + a1.size)) = n4
      omega
    have hat : At v4 w2.heap.size 0 (a0.data.toList ++ (nd ++ (stL true ++ a1.data.toList))) := by
      refine row_at _ hown4 ?_ ?_
      · simp [Lib.strCells, nd, stL, tr, fa]
      · rw [← hlen]; simp [nd, stL, tr, fa]; omega
    have hcon := zzMayTurn G hix w2.heap.size cap n4 a0.data.toList a1.data.toList true ready m v4 hat HNO.out hlen (by have e1 := HN1.out; have e2 := HN2.out; have e3 := HN3.out; have e4 := HN4.out; have := HCAP.out; omega) (by omega) ((HB4.out.cell (p := ⟨G, 0, none⟩) HG2.out).trans HM2.out) (block_lt hown4)
    clear hlen hat hown4
    go_wp2_with fail
    refine hcon.mono ?_
    rintro e v5 ⟨rfl, hb⟩
    have HB5 : Hid (Below w.heap.size w v5) := HB.out.trans ((HB4.out.mono HB.out.size).trans (hb.mono (Nat.le_trans HB.out.size HB4.out.size)))
    clear hcon hb
    go_wp2_with fail
    go_ret
    exact ⟨by cases ready <;> rfl, HB5.out⟩
  | false =>
    go_wp2_with (at_builtin; refine Lib.wpList_append_fits_string _ rfl (.tmp 33) (.tmp 34) 22 9 rfl w2.heap.size 5 i0 Try.underlying22 Try.underlying9 hi hz1 (some ⟨w2.heap.size, 0, none⟩) 0 cap _ rfl hown0 a0 rfl (by omega) (by have := HCAP.out; omega) ?_)
    intro v1 hown1 hgrow1
    have HB1 : Hid (Below w2.heap.size w2 v1) := HB0.out.grown hgrow1 HB0.out.size (fun k hk => by cases hk; exact Nat.le_refl _)
    obtain ⟨n1, hn1⟩ : ∃ m, a0.size = m := ⟨_, rfl⟩
    rw [hn1] at hown1 ⊢
    have HN1 : Hid (a0.size = n1) := hn1
    clear hgrow1 hown0 HB0 hn1
    go_wp2_with (at_builtin; refine Lib.wpList_append_fits_string _ rfl (.tmp 36) (.const (.string ⟨#[123, 34, 116, 121, 112, 101, 34, 58, 34, 82, 101, 97, 100, 121, 34, 44, 34, 115, 116, 97, 116, 117, 115, 34, 58, 34]⟩)) 22 9 rfl w2.heap.size 5 i0 Try.underlying22 Try.underlying9 hi hz1 (some ⟨w2.heap.size, 0, none⟩) n1 cap _ rfl hown1 (⟨#[123, 34, 116, 121, 112, 101, 34, 58, 34, 82, 101, 97, 100, 121, 34, 44, 34, 115, 116, 97, 116, 117, 115, 34, 58, 34]⟩ : ByteArray) rfl (by omega) (by have := HCAP.out; have e1 := HN1.out; show n1 + 26 ≤ cap; omega) ?_)
    intro v2 hown2 hgrow2
    have hs2 : n1 + (⟨#[123, 34, 116, 121, 112, 101, 34, 58, 34, 82, 101, 97, 100, 121, 34, 44, 34, 115, 116, 97, 116, 117, 115, 34, 58, 34]⟩ : ByteArray).size = n1 + 26 := rfl
    try rw [hs2] at hown2 ⊢
    have HB2 : Hid (Below w2.heap.size w2 v2) := HB1.out.grown hgrow2 HB1.out.size (fun k hk => by cases hk; exact Nat.le_refl _)
    obtain ⟨n2, hn2⟩ : ∃ m, n1 + 26 = m := ⟨_, rfl⟩
    rw [hn2] at hown2 ⊢
    have HN2 : Hid (n1 + 26 = n2) := hn2
    clear hgrow2 hown1 HB1 hn2 hs2
    go_wp2_with (at_builtin; refine Lib.wpList_append_fits_string _ rfl (.tmp 41) (.const (.string ⟨#[70, 97, 108, 115, 101, 34]⟩)) 22 9 rfl w2.heap.size 5 i0 Try.underlying22 Try.underlying9 hi hz1 (some ⟨w2.heap.size, 0, none⟩) n2 cap _ rfl hown2 (⟨#[70, 97, 108, 115, 101, 34]⟩ : ByteArray) rfl (by omega) (by have := HCAP.out; have e1 := HN1.out; have e2 := HN2.out; show n2 + 6 ≤ cap; omega) ?_)
    intro v3 hown3 hgrow3
    have hs3 : n2 + (⟨#[70, 97, 108, 115, 101, 34]⟩ : ByteArray).size = n2 + 6 := rfl
    try rw [hs3] at hown3 ⊢
    have HB3 : Hid (Below w2.heap.size w2 v3) := HB2.out.grown hgrow3 HB2.out.size (fun k hk => by cases hk; exact Nat.le_refl _)
    obtain ⟨n3, hn3⟩ : ∃ m, n2 + 6 = m := ⟨_, rfl⟩
    rw [hn3] at hown3 ⊢
    have HN3 : Hid (n2 + 6 = n3) := hn3
    clear hgrow3 hown2 HB2 hn3 hs3
    go_wp2_with (at_builtin; refine Lib.wpList_append_fits_string _ rfl (.tmp 43) (.tmp 44) 22 9 rfl w2.heap.size 5 i0 Try.underlying22 Try.underlying9 hi hz1 (some ⟨w2.heap.size, 0, none⟩) n3 cap _ rfl hown3 a1 rfl (by omega) (by have := HCAP.out; have e1 := HN1.out; have e2 := HN2.out; have e3 := HN3.out; omega) ?_)
    intro v4 hown4 hgrow4
    have HB4 : Hid (Below w2.heap.size w2 v4) := HB3.out.grown hgrow4 HB3.out.size (fun k hk => by cases hk; exact Nat.le_refl _)
    obtain ⟨n4, hn4⟩ : ∃ m, n3 + a1.size = m := ⟨_, rfl⟩
    rw [hn4] at hown4 ⊢
    have HN4 : Hid (n3 + a1.size = n4) := hn4
    clear hgrow4 hown3 HB3 hn4
    have hlen : a0.data.toList.length + (26 + ((stL false).length + a1.data.toList.length)) = n4 := by
      have e1 := HN1.out; have e2 := HN2.out; have e3 := HN3.out; have e4 := HN4.out;
      simp only [Array.length_toList]
      show a0.size + (26 + (6 + a1.size)) = n4
      omega
    have hat : At v4 w2.heap.size 0 (a0.data.toList ++ (nd ++ (stL false ++ a1.data.toList))) := by
      refine row_at _ hown4 ?_ ?_
      · simp [Lib.strCells, nd, stL, tr, fa]
      · rw [← hlen]; simp [nd, stL, tr, fa]; omega
    have hcon := zzMayTurn G hix w2.heap.size cap n4 a0.data.toList a1.data.toList false ready m v4 hat HNO.out hlen (by have e1 := HN1.out; have e2 := HN2.out; have e3 := HN3.out; have e4 := HN4.out; have := HCAP.out; omega) (by omega) ((HB4.out.cell (p := ⟨G, 0, none⟩) HG2.out).trans HM2.out) (block_lt hown4)
    clear hlen hat hown4
    go_wp2_with fail
    refine hcon.mono ?_
    rintro e v5 ⟨rfl, hb⟩
    have HB5 : Hid (Below w.heap.size w v5) := HB.out.trans ((HB4.out.mono HB.out.size).trans (hb.mono (Nat.le_trans HB.out.size HB4.out.size)))
    clear hcon hb
    go_wp2_with fail
    go_ret
    exact ⟨by cases ready <;> rfl, HB5.out⟩

set_option maxHeartbeats 1000000 in
set_option maxRecDepth 100000 in
theorem ready_big (a0 a1 : ByteArray) (st ready : Bool) (w : World) (h0 : a0.size ≤ maxLen) (h1 : a1.size ≤ maxLen) (b : ¬ (a0.size ≤ 65536 ∧ a1.size ≤ 65536)) :
    Calls Try.prog 6 #[.string a0, .string a1, .bool st, .bool ready] w fun e w' => e = .returned (.bool true) ∧ Below w.heap.size w w' := by
  have hzz := zzReady_some a0 a1 st ready h0 h1 w
  have h0' : a0.size ≤ 9223372036854775807 := h0
  have h1' : a1.size ≤ 9223372036854775807 := h1
  have BB : Hid (¬ (a0.size ≤ 65536 ∧ a1.size ≤ 65536)) := b
  clear h0 h1 b
  go_enter Try.func6, Try.ntmps6
  go_wp2_with fail
  refine hzz.mono ?_
  rintro e w' ⟨⟨bb, rfl⟩, hw'⟩
  subst hw'
  clear hzz
  cases bb with
  | false =>
    go_wp2_with fail
    go_ret
    exact ⟨rfl, Below.refl _ _⟩
  | true =>
    by_cases k0 : a0.size ≤ 65536
    · by_cases k1 : a1.size ≤ 65536
      · exact absurd ⟨k0, k1⟩ BB.out
      · go_wp2_with fail
        go_ret
        exact ⟨rfl, Below.refl _ _⟩
    · go_wp2_with fail
      go_ret
      exact ⟨rfl, Below.refl _ _⟩

theorem ready_any (G : Nat) (hix : IndexSays G) (a0 a1 : ByteArray) (st ready : Bool) (m : Int) (w : World) (h0 : a0.size ≤ maxLen) (h1 : a1.size ≤ maxLen) (hm : w.cell? ⟨G, 0, none⟩ = some (.int .i64 m)) :
    Calls Try.prog 6 #[.string a0, .string a1, .bool st, .bool ready] w fun e w' => e = .returned (.bool true) ∧ Below w.heap.size w w' := by
  by_cases b : a0.size ≤ 65536 ∧ a1.size ≤ 65536
  · exact ready_small G hix a0 a1 st ready m w b.1 b.2 hm
  · exact ready_big a0 a1 st ready w h0 h1 b

end Go.Proofs.Qxb6602174a
