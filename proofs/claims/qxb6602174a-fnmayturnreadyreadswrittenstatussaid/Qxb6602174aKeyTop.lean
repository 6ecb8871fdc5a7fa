/-
  The law's own walk: the line is built in its own row, and read back.
-/
import Derived.Test.Qxb6602174aKey
namespace Go.Proofs.Qxb6602174a
set_option linter.unusedVariables false
set_option linter.unusedSimpArgs false
open Go.RowKit

theorem info5 : (Try.prog.info? 5).map (fun i => (i.zero, i.size, i.bytes)) = some (some (.int .u8 0), 1, 1) := by kernel_rfl

/-- The cells of a literal slice. -/
theorem lit_cells (w : World) (ys : List Int) : ∀ j u, (ys.map (Value.int .u8))[j]? = some u → (w.alloc (.cells (ys.map (Value.int .u8)).toArray 5)).cell? ((⟨w.heap.size, 0, none⟩ : Addr).add j) = some u := by
  intro j u hj
  have e : (⟨w.heap.size, 0, none⟩ : Addr).add j = ⟨w.heap.size, j, none⟩ := by unfold Addr.add; split <;> simp_all
  rw [e, World.cell?_alloc_at _ _ _ _ rfl]
  simpa using hj

/-- An owned row of bytes, read. -/
theorem row_at {w : World} {base g n cap : Nat} {xs : List Value} (l : List UInt8) (h : w.ownsRow base 5 1 (.slice (some ⟨g, 0, none⟩) n cap) n xs) (hx : xs = l.map fun b => Value.int .u8 (b.toNat : Int)) (hl : l.length = n) : At w g 0 l := fun i hi => by
  subst hx
  rw [Nat.zero_add, h.cellAt i (by omega)]
  simp [List.getD, hi]

theorem block_lt {w : World} {base g n cap : Nat} {xs : List Value} (h : w.ownsRow base 5 1 (.slice (some ⟨g, 0, none⟩) n cap) n xs) : g < w.heap.size := by
  rcases h.2 with ⟨h', _⟩ | ⟨g', cap', cur, h', _, hg, _⟩
  · simp at h'
  · simp only [Value.slice.injEq, Option.some.injEq, Addr.mk.injEq, and_true, true_and] at h'
    obtain ⟨rfl, rfl⟩ := h'
    exact (Array.getElem?_eq_some_iff.1 hg).1

set_option maxHeartbeats 2000000 in
set_option maxRecDepth 100000 in
theorem top_bare (a0 a1 a2 a3 a4 : ByteArray) (h0 : a0.size ≤ 65536) (h1 : a1.size ≤ 65536) (h2 : a2.size ≤ 65536) (h3 : a3.size ≤ 65536) (h4 : a4.size ≤ 65536)
    (b1 : bareL a1.data.toList = true) (b2 : bareL a2.data.toList = true) (b3 : bareL a3.data.toList = true) (w : World) :
    Calls Try.prog 4 #[.string a0, .string a1, .string a2, .string a3, .string a4] w fun e w' => e = .returned (.bool true) ∧ Below w.heap.size w w' := by
  obtain ⟨i0, hi, hz0, hz1, hz2⟩ := info_parts info5
  have hzz := zzBytes_yes a0 a1 a2 a3 a4 h0 h1 h2 h3 h4 w
  have c1 := bare_any a1 h1 w
  have c2 := bare_any a2 h2 w
  have c3 := bare_any a3 h3 w
  rw [b1] at c1
  rw [b2] at c2
  rw [b3] at c3
  have B1 : Hid (bareL a1.data.toList = true) := b1
  have B2 : Hid (bareL a2.data.toList = true) := b2
  have B3 : Hid (bareL a3.data.toList = true) := b3
  clear b1 b2 b3
  obtain ⟨cap, hcap⟩ : ∃ cap, cap = a0.size + a1.size + a2.size + a3.size + a4.size + 64 := ⟨_, rfl⟩
  have HCAP : Hid (cap = a0.size + a1.size + a2.size + a3.size + a4.size + 64) := hcap
  have hcap1 : 0 < cap := by omega
  have hcap2 : cap ≤ 400000 := by omega
  clear hcap
  go_enter Try.func4, Try.ntmps4
  go_wp2_with fail
  refine hzz.mono ?_
  rintro e w' ⟨rfl, hw'⟩
  subst hw'
  clear hzz
  go_wp2_with fail
  refine c1.mono ?_
  rintro e w' ⟨rfl, hw'⟩
  subst hw'
  go_wp2_with fail
  refine c2.mono ?_
  rintro e w' ⟨rfl, hw'⟩
  subst hw'
  go_wp2_with fail
  refine c3.mono ?_
  rintro e w ⟨rfl, hw'⟩
  subst hw'
  clear c1 c2 c3
  go_wp2_with (at_make; refine wpList_make_own _ rfl _ _ 22 rfl w.heap.size 5 i0 (.int .u8 0) 1 Try.underlying22 hi hz0 hz1 _ _ _ cap rfl rfl (by have := HCAP.out; omega) (by rw [hz2]; omega) (by unfold maxLen; omega) (Nat.le_refl _) ?_)
  intro w0 hown0 hgrow0
  have HB0 : Hid (Below w.heap.size w w0) := (Below.refl _ _).grown hgrow0 (Nat.le_refl _) (fun k hk => by cases hk)
  clear hgrow0
  go_wp2_with (at_builtin; refine Lib.wpList_append_fits_string _ rfl (.tmp 65) (.tmp 66) 22 9 rfl w.heap.size 5 i0 Try.underlying22 Try.underlying9 hi hz1 (some ⟨w.heap.size, 0, none⟩) 0 cap _ rfl hown0 a0 rfl (by omega) (by have := HCAP.out; omega) ?_)
  intro w1 hown1 hgrow1
  have HB1 : Hid (Below w.heap.size w w1) := HB0.out.grown hgrow1 HB0.out.size (fun k hk => by cases hk; exact Nat.le_refl _)
  obtain ⟨n1, hn1⟩ : ∃ m, a0.size = m := ⟨_, rfl⟩
  rw [hn1] at hown1 ⊢
  have HN1 : Hid (a0.size = n1) := hn1
  clear hgrow1 hown0 HB0 hn1
  go_wp2_with (at_builtin; refine Lib.wpList_append_fits_string _ rfl (.tmp 68) (.tmp 69) 22 9 rfl w.heap.size 5 i0 Try.underlying22 Try.underlying9 hi hz1 (some ⟨w.heap.size, 0, none⟩) n1 cap _ rfl hown1 a1 rfl (by omega) (by have e1 := HN1.out; have := HCAP.out; omega) ?_)
  intro w2 hown2 hgrow2
  have HB2 : Hid (Below w.heap.size w w2) := HB1.out.grown hgrow2 HB1.out.size (fun k hk => by cases hk; exact Nat.le_refl _)
  obtain ⟨n2, hn2⟩ : ∃ m, n1 + a1.size = m := ⟨_, rfl⟩
  rw [hn2] at hown2 ⊢
  have HN2 : Hid (n1 + a1.size = n2) := hn2
  clear hgrow2 hown1 HB1 hn2
  go_wp2_with (at_builtin; refine wpList_append_fits _ rfl (.tmp 71) (.tmp 72) 22 rfl w.heap.size 5 i0 1 Try.underlying22 hi hz1 w.heap.size n2 cap _ rfl (hown2.alloc _) ⟨w2.heap.size, 0, none⟩ 1 1 (([34] : List Int).map (Value.int .u8)) rfl rfl (lit_cells _ [34]) (ints_oneCell _ _) (by have e1 := HN1.out; have e2 := HN2.out; have := HCAP.out; omega) ?_)
  intro w3 hown3 hgrow3
  have HB3 : Hid (Below w.heap.size w w3) := (HB2.out.alloc HB2.out.size _).grown hgrow3 (by simpa using Nat.le_succ_of_le HB2.out.size) (fun k hk => by cases hk; exact Nat.le_refl _)
  obtain ⟨n3, hn3⟩ : ∃ m, n2 + 1 = m := ⟨_, rfl⟩
  rw [hn3] at hown3 ⊢
  have HN3 : Hid (n2 + 1 = n3) := hn3
  clear hgrow3 hown2 HB2 hn3
  go_wp2_with (at_builtin; refine Lib.wpList_append_fits_string _ rfl (.tmp 74) (.const (.string ⟨#[44, 34, 107, 105, 110, 100, 34, 58, 34]⟩)) 22 9 rfl w.heap.size 5 i0 Try.underlying22 Try.underlying9 hi hz1 (some ⟨w.heap.size, 0, none⟩) n3 cap _ rfl hown3 (⟨#[44, 34, 107, 105, 110, 100, 34, 58, 34]⟩ : ByteArray) rfl (by omega) (by have e1 := HN1.out; have e2 := HN2.out; have e3 := HN3.out; show n3 + 9 ≤ cap; have := HCAP.out; omega) ?_)
  intro w4 hown4 hgrow4
  have hs4 : n3 + (⟨#[44, 34, 107, 105, 110, 100, 34, 58, 34]⟩ : ByteArray).size = n3 + 9 := rfl
  try rw [hs4] at hown4 ⊢
  have HB4 : Hid (Below w.heap.size w w4) := HB3.out.grown hgrow4 HB3.out.size (fun k hk => by cases hk; exact Nat.le_refl _)
  obtain ⟨n4, hn4⟩ : ∃ m, n3 + 9 = m := ⟨_, rfl⟩
  rw [hn4] at hown4 ⊢
  have HN4 : Hid (n3 + 9 = n4) := hn4
  clear hgrow4 hown3 HB3 hn4 hs4
  go_wp2_with (at_builtin; refine Lib.wpList_append_fits_string _ rfl (.tmp 76) (.tmp 77) 22 9 rfl w.heap.size 5 i0 Try.underlying22 Try.underlying9 hi hz1 (some ⟨w.heap.size, 0, none⟩) n4 cap _ rfl hown4 a2 rfl (by omega) (by have e1 := HN1.out; have e2 := HN2.out; have e3 := HN3.out; have e4 := HN4.out; have := HCAP.out; omega) ?_)
  intro w5 hown5 hgrow5
  have HB5 : Hid (Below w.heap.size w w5) := HB4.out.grown hgrow5 HB4.out.size (fun k hk => by cases hk; exact Nat.le_refl _)
  obtain ⟨n5, hn5⟩ : ∃ m, n4 + a2.size = m := ⟨_, rfl⟩
  rw [hn5] at hown5 ⊢
  have HN5 : Hid (n4 + a2.size = n5) := hn5
  clear hgrow5 hown4 HB4 hn5
  go_wp2_with (at_builtin; refine wpList_append_fits _ rfl (.tmp 79) (.tmp 80) 22 rfl w.heap.size 5 i0 1 Try.underlying22 hi hz1 w.heap.size n5 cap _ rfl (hown5.alloc _) ⟨w5.heap.size, 0, none⟩ 1 1 (([34] : List Int).map (Value.int .u8)) rfl rfl (lit_cells _ [34]) (ints_oneCell _ _) (by have e1 := HN1.out; have e2 := HN2.out; have e3 := HN3.out; have e4 := HN4.out; have e5 := HN5.out; have := HCAP.out; omega) ?_)
  intro w6 hown6 hgrow6
  have HB6 : Hid (Below w.heap.size w w6) := (HB5.out.alloc HB5.out.size _).grown hgrow6 (by simpa using Nat.le_succ_of_le HB5.out.size) (fun k hk => by cases hk; exact Nat.le_refl _)
  obtain ⟨n6, hn6⟩ : ∃ m, n5 + 1 = m := ⟨_, rfl⟩
  rw [hn6] at hown6 ⊢
  have HN6 : Hid (n5 + 1 = n6) := hn6
  clear hgrow6 hown5 HB5 hn6
  go_wp2_with (at_builtin; refine Lib.wpList_append_fits_string _ rfl (.tmp 82) (.const (.string ⟨#[44, 34, 109, 101, 116, 97, 100, 97, 116, 97, 34, 58, 123, 34, 110, 97, 109, 101, 34, 58, 34]⟩)) 22 9 rfl w.heap.size 5 i0 Try.underlying22 Try.underlying9 hi hz1 (some ⟨w.heap.size, 0, none⟩) n6 cap _ rfl hown6 (⟨#[44, 34, 109, 101, 116, 97, 100, 97, 116, 97, 34, 58, 123, 34, 110, 97, 109, 101, 34, 58, 34]⟩ : ByteArray) rfl (by omega) (by have e1 := HN1.out; have e2 := HN2.out; have e3 := HN3.out; have e4 := HN4.out; have e5 := HN5.out; have e6 := HN6.out; show n6 + 21 ≤ cap; have := HCAP.out; omega) ?_)
  intro w7 hown7 hgrow7
  have hs7 : n6 + (⟨#[44, 34, 109, 101, 116, 97, 100, 97, 116, 97, 34, 58, 123, 34, 110, 97, 109, 101, 34, 58, 34]⟩ : ByteArray).size = n6 + 21 := rfl
  try rw [hs7] at hown7 ⊢
  have HB7 : Hid (Below w.heap.size w w7) := HB6.out.grown hgrow7 HB6.out.size (fun k hk => by cases hk; exact Nat.le_refl _)
  obtain ⟨n7, hn7⟩ : ∃ m, n6 + 21 = m := ⟨_, rfl⟩
  rw [hn7] at hown7 ⊢
  have HN7 : Hid (n6 + 21 = n7) := hn7
  clear hgrow7 hown6 HB6 hn7 hs7
  go_wp2_with (at_builtin; refine Lib.wpList_append_fits_string _ rfl (.tmp 84) (.tmp 85) 22 9 rfl w.heap.size 5 i0 Try.underlying22 Try.underlying9 hi hz1 (some ⟨w.heap.size, 0, none⟩) n7 cap _ rfl hown7 a3 rfl (by omega) (by have e1 := HN1.out; have e2 := HN2.out; have e3 := HN3.out; have e4 := HN4.out; have e5 := HN5.out; have e6 := HN6.out; have e7 := HN7.out; have := HCAP.out; omega) ?_)
  intro w8 hown8 hgrow8
  have HB8 : Hid (Below w.heap.size w w8) := HB7.out.grown hgrow8 HB7.out.size (fun k hk => by cases hk; exact Nat.le_refl _)
  obtain ⟨n8, hn8⟩ : ∃ m, n7 + a3.size = m := ⟨_, rfl⟩
  rw [hn8] at hown8 ⊢
  have HN8 : Hid (n7 + a3.size = n8) := hn8
  clear hgrow8 hown7 HB7 hn8
  go_wp2_with (at_builtin; refine wpList_append_fits _ rfl (.tmp 87) (.tmp 88) 22 rfl w.heap.size 5 i0 1 Try.underlying22 hi hz1 w.heap.size n8 cap _ rfl (hown8.alloc _) ⟨w8.heap.size, 0, none⟩ 1 1 (([34] : List Int).map (Value.int .u8)) rfl rfl (lit_cells _ [34]) (ints_oneCell _ _) (by have e1 := HN1.out; have e2 := HN2.out; have e3 := HN3.out; have e4 := HN4.out; have e5 := HN5.out; have e6 := HN6.out; have e7 := HN7.out; have e8 := HN8.out; have := HCAP.out; omega) ?_)
  intro w9 hown9 hgrow9
  have HB9 : Hid (Below w.heap.size w w9) := (HB8.out.alloc HB8.out.size _).grown hgrow9 (by simpa using Nat.le_succ_of_le HB8.out.size) (fun k hk => by cases hk; exact Nat.le_refl _)
  obtain ⟨n9, hn9⟩ : ∃ m, n8 + 1 = m := ⟨_, rfl⟩
  rw [hn9] at hown9 ⊢
  have HN9 : Hid (n8 + 1 = n9) := hn9
  clear hgrow9 hown8 HB8 hn9
  go_wp2_with (at_builtin; refine Lib.wpList_append_fits_string _ rfl (.tmp 90) (.tmp 91) 22 9 rfl w.heap.size 5 i0 Try.underlying22 Try.underlying9 hi hz1 (some ⟨w.heap.size, 0, none⟩) n9 cap _ rfl hown9 a4 rfl (by omega) (by have e1 := HN1.out; have e2 := HN2.out; have e3 := HN3.out; have e4 := HN4.out; have e5 := HN5.out; have e6 := HN6.out; have e7 := HN7.out; have e8 := HN8.out; have e9 := HN9.out; have := HCAP.out; omega) ?_)
  intro w10 hown10 hgrow10
  have HB10 : Hid (Below w.heap.size w w10) := HB9.out.grown hgrow10 HB9.out.size (fun k hk => by cases hk; exact Nat.le_refl _)
  obtain ⟨n10, hn10⟩ : ∃ m, n9 + a4.size = m := ⟨_, rfl⟩
  rw [hn10] at hown10 ⊢
  have HN10 : Hid (n9 + a4.size = n10) := hn10
  clear hgrow10 hown9 HB9 hn10
  have hlen : a0.data.toList.length + (a1.data.toList.length + 1 + 9 + (a2.data.toList.length + 1 + 21 + (a3.data.toList.length + 1 + a4.data.toList.length))) = n10 := by
    have e1 := HN1.out; have e2 := HN2.out; have e3 := HN3.out; have e4 := HN4.out; have e5 := HN5.out; have e6 := HN6.out; have e7 := HN7.out; have e8 := HN8.out; have e9 := HN9.out; have e10 := HN10.out;
    simp only [Array.length_toList]
    show a0.size + (a1.size + 1 + 9 + (a2.size + 1 + 21 + (a3.size + 1 + a4.size))) = n10
    omega
  have hat : At w10 w.heap.size 0 (a0.data.toList ++ (a1.data.toList ++ 34 :: (kf.data.toList ++ (a2.data.toList ++ 34 :: (mf.data.toList ++ (a3.data.toList ++ 34 :: a4.data.toList)))))) := by
    refine row_at _ hown10 ?_ ?_
    · simp [Lib.strCells, kf, mf]
    · rw [← hlen]; simp [kf, mf]; omega
  have hcon := zzReadKey w.heap.size cap n10 a0.data.toList a1.data.toList a2.data.toList a3.data.toList a4.data.toList a0 w10 B1.out B2.out B3.out (by simp) hat hlen (by have e1 := HN1.out; have e2 := HN2.out; have e3 := HN3.out; have e4 := HN4.out; have e5 := HN5.out; have e6 := HN6.out; have e7 := HN7.out; have e8 := HN8.out; have e9 := HN9.out; have e10 := HN10.out; have := HCAP.out; omega) (by omega) (block_lt hown10)
  have h33 : (⟨a3.data.toList.toArray⟩ : ByteArray) = a3 := by simp
  rw [h33] at hcon
  clear hlen hat h33 hown10
  go_wp2_with fail
  refine hcon.mono ?_
  rintro e w11 ⟨⟨g, rfl, hg⟩, hb⟩
  have HB11 : Hid (Below w.heap.size w w11) := HB10.out.trans (hb.mono HB10.out.size)
  clear hcon hb
  go_wp2_with fail
  go_ret
  exact ⟨by simp, HB11.out⟩

def allSmall (a0 a1 a2 a3 a4 : ByteArray) : Prop := a0.size ≤ 65536 ∧ a1.size ≤ 65536 ∧ a2.size ≤ 65536 ∧ a3.size ≤ 65536 ∧ a4.size ≤ 65536

set_option maxHeartbeats 1000000 in
set_option maxRecDepth 100000 in
theorem top_notbare (a0 a1 a2 a3 a4 : ByteArray) (h0 : a0.size ≤ 65536) (h1 : a1.size ≤ 65536) (h2 : a2.size ≤ 65536) (h3 : a3.size ≤ 65536) (h4 : a4.size ≤ 65536)
    (b : ¬ (bareL a1.data.toList = true ∧ bareL a2.data.toList = true ∧ bareL a3.data.toList = true)) (w : World) :
    Calls Try.prog 4 #[.string a0, .string a1, .string a2, .string a3, .string a4] w fun e w' => e = .returned (.bool true) ∧ Below w.heap.size w w' := by
  have hzz := zzBytes_yes a0 a1 a2 a3 a4 h0 h1 h2 h3 h4 w
  have c1 := bare_any a1 h1 w
  have c2 := bare_any a2 h2 w
  have c3 := bare_any a3 h3 w
  generalize bareL a1.data.toList = x1 at *
  generalize bareL a2.data.toList = x2 at *
  generalize bareL a3.data.toList = x3 at *
  cases x1 with
  | false =>
    clear b c2 c3
    go_enter Try.func4, Try.ntmps4
    go_wp2_with fail
    refine hzz.mono ?_
    rintro e w' ⟨rfl, hw'⟩
    subst hw'
    go_wp2_with fail
    refine c1.mono ?_
    rintro e w' ⟨rfl, hw'⟩
    subst hw'
    go_wp2_with fail
    go_ret
    exact ⟨rfl, Below.refl _ _⟩
  | true =>
    cases x2 with
    | false =>
      clear b c3
      go_enter Try.func4, Try.ntmps4
      go_wp2_with fail
      refine hzz.mono ?_
      rintro e w' ⟨rfl, hw'⟩
      subst hw'
      go_wp2_with fail
      refine c1.mono ?_
      rintro e w' ⟨rfl, hw'⟩
      subst hw'
      go_wp2_with fail
      refine c2.mono ?_
      rintro e w' ⟨rfl, hw'⟩
      subst hw'
      go_wp2_with fail
      go_ret
      exact ⟨rfl, Below.refl _ _⟩
    | true =>
      cases x3 with
      | false =>
        clear b
        go_enter Try.func4, Try.ntmps4
        go_wp2_with fail
        refine hzz.mono ?_
        rintro e w' ⟨rfl, hw'⟩
        subst hw'
        go_wp2_with fail
        refine c1.mono ?_
        rintro e w' ⟨rfl, hw'⟩
        subst hw'
        go_wp2_with fail
        refine c2.mono ?_
        rintro e w' ⟨rfl, hw'⟩
        subst hw'
        go_wp2_with fail
        refine c3.mono ?_
        rintro e w' ⟨rfl, hw'⟩
        subst hw'
        go_wp2_with fail
        go_ret
        exact ⟨rfl, Below.refl _ _⟩
      | true => exact absurd ⟨rfl, rfl, rfl⟩ b

set_option maxHeartbeats 1000000 in
set_option maxRecDepth 100000 in
theorem top_big (a0 a1 a2 a3 a4 : ByteArray) (h0 : a0.size ≤ maxLen) (h1 : a1.size ≤ maxLen) (h2 : a2.size ≤ maxLen) (h3 : a3.size ≤ maxLen) (h4 : a4.size ≤ maxLen)
    (b : ¬ allSmall a0 a1 a2 a3 a4) (w : World) :
    Calls Try.prog 4 #[.string a0, .string a1, .string a2, .string a3, .string a4] w fun e w' => e = .returned (.bool true) ∧ Below w.heap.size w w' := by
  have hzz := zzBytes_some a0 a1 a2 a3 a4 h0 h1 h2 h3 h4 w
  have h0' : a0.size ≤ 9223372036854775807 := h0
  have h1' : a1.size ≤ 9223372036854775807 := h1
  have h2' : a2.size ≤ 9223372036854775807 := h2
  have h3' : a3.size ≤ 9223372036854775807 := h3
  have h4' : a4.size ≤ 9223372036854775807 := h4
  clear h0 h1 h2 h3 h4
  go_enter Try.func4, Try.ntmps4
  go_wp2_with fail
  refine hzz.mono ?_
  rintro e w' ⟨⟨bb, rfl⟩, hw'⟩
  subst hw'
  clear hzz
  cases bb with
  | false =>
    go_wp2_with fail
    go_ret
    exact ⟨rfl, Below.refl _ _⟩
  | true =>
    by_cases k0 : a0.size ≤ 65536
    · by_cases k1 : a1.size ≤ 65536
      · by_cases k2 : a2.size ≤ 65536
        · by_cases k3 : a3.size ≤ 65536
          · by_cases k4 : a4.size ≤ 65536
            · exact absurd ⟨k0, k1, k2, k3, k4⟩ b
            · go_wp2_with fail
              go_ret
              exact ⟨rfl, Below.refl _ _⟩
          · go_wp2_with fail
            go_ret
            exact ⟨rfl, Below.refl _ _⟩
        · go_wp2_with fail
          go_ret
          exact ⟨rfl, Below.refl _ _⟩
      · go_wp2_with fail
        go_ret
        exact ⟨rfl, Below.refl _ _⟩
    · go_wp2_with fail
      go_ret
      exact ⟨rfl, Below.refl _ _⟩

theorem top_any (a0 a1 a2 a3 a4 : ByteArray) (h0 : a0.size ≤ maxLen) (h1 : a1.size ≤ maxLen) (h2 : a2.size ≤ maxLen) (h3 : a3.size ≤ maxLen) (h4 : a4.size ≤ maxLen) (w : World) :
    Calls Try.prog 4 #[.string a0, .string a1, .string a2, .string a3, .string a4] w fun e w' => e = .returned (.bool true) ∧ Below w.heap.size w w' := by
  by_cases b : a0.size ≤ 65536 ∧ a1.size ≤ 65536 ∧ a2.size ≤ 65536 ∧ a3.size ≤ 65536 ∧ a4.size ≤ 65536
  · obtain ⟨k0, k1, k2, k3, k4⟩ := b
    by_cases bb : bareL a1.data.toList = true ∧ bareL a2.data.toList = true ∧ bareL a3.data.toList = true
    · exact top_bare a0 a1 a2 a3 a4 k0 k1 k2 k3 k4 bb.1 bb.2.1 bb.2.2 w
    · exact top_notbare a0 a1 a2 a3 a4 k0 k1 k2 k3 k4 bb w
  · exact top_big a0 a1 a2 a3 a4 h0 h1 h2 h3 h4 b w

end Go.Proofs.Qxb6602174a
