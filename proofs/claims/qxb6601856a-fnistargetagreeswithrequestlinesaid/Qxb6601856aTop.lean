/-
  The law's own walk.
-/
import Derived.Test.Qxb6601856aParse
namespace Go.Proofs.Qxb6601856a
set_option linter.unusedVariables false
set_option linter.unusedSimpArgs false
open Go.RowKit

set_option maxHeartbeats 400000 in
/-- Of no byte, at whatever address. -/
theorem hsClone_empty (x : Addr) (c : Nat) (w : World) :
    Calls Try.prog 9 #[.slice (some x) 0 c] w fun e w' => e = .returned (.slice (some ⟨w.heap.size, 0, none⟩) 0 0) ∧
      w'.ownsRow w.heap.size 5 1 (.slice (some ⟨w.heap.size, 0, none⟩) 0 0) 0 [] ∧ Below w.heap.size w w' ∧ w.heap.size < w'.heap.size := by
  have q22 : ∀ (w : World) (a : Option Addr) (n c n' c' : Nat), (binOp .eql 22 (.slice a n c) (.slice none n' c')).run Try.prog w = .ok (.bool a.isNone) w := fun w a n c n' c' => Lib.run_eql_slice_nil w _ _ a n c n' c' Try.underlying22
  obtain ⟨i0, hi, hz0, hz1, hz2⟩ := info_parts info5
  go_enter Try.func9, Try.ntmps9
  go_wp2_with (at_make; refine wpList_make_full _ rfl _ _ 22 rfl w.heap.size 5 i0 (.int .u8 0) 1 Try.underlying22 hi hz0 hz1 _ _ _ _ 0 rfl rfl (by omega) (by omega) (by rw [hz2]; omega) (by unfold maxLen; omega) (Nat.le_refl _) ?_)
  intro w1 hown hgrow
  have hbel : Below w.heap.size w w1 := (Below.refl _ _).grown hgrow (Nat.le_refl _) (fun k hk => by cases hk)
  have hsz : w.heap.size < w1.heap.size := by
    rcases hown.2 with ⟨h', _⟩ | ⟨g', cap', cur, h', _, hg, _⟩
    · simp at h'
    · simp only [Value.slice.injEq, Option.some.injEq, Addr.mk.injEq, and_true, true_and] at h'
      obtain ⟨rfl, rfl⟩ := h'
      exact (Array.getElem?_eq_some_iff.1 hg).1
  have HO : Hid (w1.ownsRow w.heap.size 5 1 (.slice (some ⟨w.heap.size, 0, none⟩) 0 0) 0 []) := by
    refine ⟨by simp, ?_⟩
    rcases hown.2 with h | ⟨g, cap, cur, h1, h2, h3, h4, h5, h6, h7⟩
    · exact Or.inl h
    · exact Or.inr ⟨g, cap, cur, h1, h2, h3, h4, h5, h6, by simp⟩
  clear hown hgrow
  go_wp2
  refine wp_loop_rounds 1 ?_
  rw [rounds_succ]
  go_wp2
  go_ret
  exact ⟨rfl, HO.out, hbel, hsz⟩

theorem hsClone_addr (x : Addr) (n c : Nat) (xs : List Int) (w : World) (hn : n ≤ 1048576) (h : Held w (some x) n xs) (hbs : x.block < w.heap.size ∨ n = 0) :
    Calls Try.prog 9 #[.slice (some x) n c] w fun e w' => e = .returned (.slice (some ⟨w.heap.size, 0, none⟩) n n) ∧
      w'.ownsRow w.heap.size 5 1 (.slice (some ⟨w.heap.size, 0, none⟩) n n) n (xs.map (Value.int .u8)) ∧ Below w.heap.size w w' ∧ w.heap.size < w'.heap.size := by
  obtain ⟨hl, hp⟩ := h
  rcases Nat.eq_zero_or_pos n with h0 | h0
  · subst h0
    obtain rfl : xs = [] := List.eq_nil_of_length_eq_zero hl
    exact hsClone_empty x c w
  · obtain ⟨b, o, e, hc⟩ := hp h0
    cases e
    exact hsClone_some b o n c xs w hl hn (fun _ => by rcases hbs with h | h; exact h; omega) hc

def get4 : List Int := [71, 69, 84, 32]
def http9 : List Int := [32, 72, 84, 84, 80, 47, 49, 46, 49]
theorem line_parts (xs : List Int) : get4 ++ xs ++ http9 = lineOf xs := by simp [get4, http9, lineOf, restOf, ver]

/-- The cells of an owned row of numbers. -/
theorem row_cells {w : World} {base g n cap : Nat} {xs : List Int} (h : w.ownsRow base 5 1 (.slice (some ⟨g, 0, none⟩) n cap) n (xs.map (Value.int .u8))) (hl : xs.length = n) :
    ∀ i, i < n → w.cell? ⟨g, i, none⟩ = some (.int .u8 (xs.getD i 0)) := fun i hi => by
  rw [h.cellAt i (by omega)]
  simp [List.getD, show i < xs.length by omega]

/-- hsClone at every slice: the copy is nil, or lies at the head of the new block. -/
theorem hsClone_all (p : Option Addr) (n c : Nat) (xs : List Int) (w : World) (hn : n ≤ 1048576) (h : Held w p n xs) (hp : p = none → n = 0 ∧ c = 0) (hbs : ∀ x, p = some x → x.block < w.heap.size ∨ n = 0) :
    Calls Try.prog 9 #[.slice p n c] w fun e w' => ∃ p', e = .returned (.slice p' n n) ∧ (p' = none → n = 0) ∧ (∀ x, p' = some x → x = ⟨w.heap.size, 0, none⟩) ∧
      (∀ i, i < n → w'.cell? ⟨w.heap.size, i, none⟩ = some (.int .u8 (xs.getD i 0))) ∧ Below w.heap.size w w' ∧ (0 < n → w.heap.size < w'.heap.size) := by
  cases p with
  | none =>
    obtain ⟨rfl, rfl⟩ := hp rfl
    refine (hsClone_nil w).mono fun e w' ⟨he, hw⟩ => ?_
    subst hw
    exact ⟨none, he, (fun _ => rfl), (fun x hx => by cases hx), (fun i hi => absurd hi (Nat.not_lt_zero _)), Below.refl _ _, (fun h => absurd h (Nat.lt_irrefl 0))⟩
  | some x =>
    refine (hsClone_addr x n c xs w hn h (hbs x rfl)).mono fun e w' ⟨he, hown, hb, hs⟩ => ?_
    exact ⟨some ⟨w.heap.size, 0, none⟩, he, (fun h => by cases h), (fun y hy => (Option.some.inj hy).symm), row_cells hown h.1, hb, (fun _ => hs)⟩

/-- The cells of a literal slice. -/
theorem lit_cells (w : World) (ys : List Int) : ∀ j u, (ys.map (Value.int .u8))[j]? = some u → (w.alloc (.cells (ys.map (Value.int .u8)).toArray 5)).cell? ((⟨w.heap.size, 0, none⟩ : Addr).add j) = some u := by
  intro j u hj
  have e : (⟨w.heap.size, 0, none⟩ : Addr).add j = ⟨w.heap.size, j, none⟩ := by unfold Addr.add; split <;> simp_all
  rw [e, World.cell?_alloc_at _ _ _ _ rfl]
  simpa using hj

set_option maxHeartbeats 1000000 in
theorem top_walk (p : Option Addr) (n c : Nat) (xs : List Int) (w : World) (hn : n ≤ 524288) (hl : xs.length = n) (hr : ∀ x ∈ xs, 0 ≤ x ∧ x < 256) (h : Held w p n xs) (hp : p = none → n = 0 ∧ c = 0) (hbs : ∀ x, p = some x → x.block < w.heap.size ∨ n = 0) :
    Calls Try.prog 7 #[.slice p n c] w fun e w' => e = .returned (.bool true) ∧ Below w.heap.size w w' := by
  obtain ⟨i0, hi, hz0, hz1, hz2⟩ := info_parts info5
  have hclone := hsClone_all p n c xs w (by omega) h hp hbs
  have hzz := zzBytes_yes p n c w (by omega)
  have hn2 : (n : Int) ≤ 524288 := by omega
  have hn3 : ¬ (524288 : Int) < (n : Int) := by omega
  clear h hbs hp
  go_enter Try.func7, Try.ntmps7
  go_wp2_with fail
  refine hzz.mono ?_
  rintro e w0 ⟨rfl, hw0⟩
  subst hw0
  clear hzz
  go_wp2_with fail
  refine hclone.mono ?_
  rintro e w1 ⟨p', rfl, hp', hpx, hcells1, hb1, hs1⟩
  clear hclone
  have HP' : Hid (p' = none → n = 0) := hp'
  have HPX : Hid (∀ x, p' = some x → x = ⟨w0.heap.size, 0, none⟩) := hpx
  have HC1 : Hid (∀ i, i < n → w1.cell? ⟨w0.heap.size, i, none⟩ = some (.int .u8 (xs.getD i 0))) := hcells1
  have HB1 : Hid (Below w0.heap.size w0 w1) := hb1
  have HS1 : Hid (0 < n → w0.heap.size < w1.heap.size) := hs1
  clear hp' hpx hcells1 hb1 hs1
  go_wp2_with (at_make; refine wpList_make_own _ rfl _ _ 22 rfl w1.heap.size 5 i0 (.int .u8 0) 1 Try.underlying22 hi hz0 hz1 _ _ _ (n + 13) rfl rfl (by omega) (by rw [hz2]; omega) (by unfold maxLen; omega) (Nat.le_refl _) ?_)
  intro w2 hown2 hgrow2
  have HG2 : Hid (w1.grownBy w2 none) := hgrow2
  clear hgrow2
  go_wp2_with (at_builtin; refine wpList_append_fits _ rfl (.tmp 22) (.tmp 23) 22 rfl w1.heap.size 5 i0 1 Try.underlying22 hi hz1 w1.heap.size 0 (n + 13) [] rfl (hown2.alloc _) ⟨w2.heap.size, 0, none⟩ 4 4 (get4.map (Value.int .u8)) rfl rfl (lit_cells _ get4) (ints_oneCell _ _) (by omega) ?_)
  intro w3 hown3 hgrow3
  have hb3 : Below w1.heap.size w1 w3 := (((Below.refl _ _).grown HG2.out (Nat.le_refl _) (fun k hk => by cases hk)).alloc HG2.out.size _).grown hgrow3 (by simpa using Nat.le_succ_of_le HG2.out.size) (fun k hk => by cases hk; exact Nat.le_refl _)
  have HN : Hid (p' = none → n = 0 ∧ n = 0) := fun h => ⟨HP'.out h, HP'.out h⟩
  have HX : Hid (∀ ad, p' = some ad → ∀ j u, (xs.map (Value.int .u8))[j]? = some u → w3.cell? (ad.add j) = some u) := by
    intro ad had j u hj
    have hjn : j < n := by have := (List.getElem?_eq_some_iff.1 hj).1; simpa [hl] using this
    rw [HPX.out ad had]
    have e : (⟨w0.heap.size, 0, none⟩ : Addr).add j = ⟨w0.heap.size, j, none⟩ := by unfold Addr.add; split <;> simp_all
    rw [e, hb3.cell (p := ⟨w0.heap.size, j, none⟩) (HS1.out (by omega)), HC1.out j hjn, ← hj]
    simp [List.getD, show j < xs.length by omega]
  have HB3 : Hid (Below w1.heap.size w1 w3) := hb3
  clear hgrow3 hb3 hown2 HG2
  go_wp2_with (at_builtin; refine wpList_append_fits_any _ rfl (.tmp 25) (.tmp 26) 22 rfl w1.heap.size 5 i0 1 Try.underlying22 hi hz1 w1.heap.size 4 (n + 13) _ rfl hown3 p' n n (xs.map (Value.int .u8)) rfl (by simp [hl]) HN.out HX.out (ints_oneCell _ _) (by omega) ?_)
  intro w4 hown4 hgrow4
  have HB4 : Hid (Below w1.heap.size w1 w4) := HB3.out.grown hgrow4 HB3.out.size (fun k hk => by cases hk; exact Nat.le_refl _)
  clear hgrow4 hown3 HX HN HB3
  go_wp2_with (at_builtin; refine wpList_append_fits _ rfl (.tmp 28) (.tmp 29) 22 rfl w1.heap.size 5 i0 1 Try.underlying22 hi hz1 w1.heap.size (4 + n) (n + 13) _ rfl (hown4.alloc _) ⟨w4.heap.size, 0, none⟩ 9 9 (http9.map (Value.int .u8)) rfl rfl (lit_cells _ http9) (ints_oneCell _ _) (by omega) ?_)
  intro w5 hown5 hgrow5
  have HB5 : Hid (Below w1.heap.size w1 w5) := (HB4.out.alloc HB4.out.size _).grown hgrow5 (by simpa using Nat.le_succ_of_le HB4.out.size) (fun k hk => by cases hk; exact Nat.le_refl _)
  have hsz5 : w1.heap.size < w5.heap.size := by
    rcases hown5.2 with ⟨h', _⟩ | ⟨g', cap', cur, h', _, hg, _⟩
    · simp at h'
    · simp only [Value.slice.injEq, Option.some.injEq, Addr.mk.injEq, and_true, true_and] at h'
      obtain ⟨rfl, rfl⟩ := h'
      exact (Array.getElem?_eq_some_iff.1 hg).1
  have hx5 : 4 + n + 9 = n + 13 := by omega
  have hcell5 : ∀ i, i < n + 13 → w5.cell? ⟨w1.heap.size, i, none⟩ = some (.int .u8 ((lineOf xs).getD i 0)) := by
    rw [← List.map_append, ← List.map_append, ← List.append_assoc, line_parts] at hown5
    intro i hi
    exact row_cells hown5 (by rw [lineOf_length, hl]; omega) i (by omega)
  have hpar : Calls Try.prog 10 #[.slice (some ⟨w1.heap.size, 0, none⟩) (4 + n + 9) (n + 13)] w5 fun e w' =>
      (∃ v0 v1 i j, e = .returned (.tuple #[v0, v1, .int .i64 i, .int .i64 j, .bool (target xs)]) ∧ (target xs = true → v1 = .slice (some ⟨w1.heap.size, 4, none⟩) n (n + 9) ∧ i = 1 ∧ j = 1)) ∧ Below w5.heap.size w5 w' := by
    rw [hx5]; exact ZZparse w1.heap.size n xs w5 hl hn hr hsz5 hcell5
  have HC5 : Hid (∀ i, i < n → w5.cell? ⟨w1.heap.size, 4 + i, none⟩ = some (.int .u8 (xs.getD i 0))) := fun i hi => by
    rw [hcell5 (4 + i) (by omega), line_get, rest_get_lo xs i (by omega)]
  have HZ5 : Hid (w1.heap.size < w5.heap.size) := hsz5
  clear hgrow5 hown4 HB4 hown5 hcell5 hx5 hsz5
  go_wp2_with fail
  refine hpar.mono ?_
  rintro e w6 ⟨⟨v0, v1, i, j, rfl, hv⟩, hb6⟩
  clear hpar
  have HV : Hid (target xs = true → v1 = .slice (some ⟨w1.heap.size, 4, none⟩) n (n + 9) ∧ i = 1 ∧ j = 1) := hv
  have HC6 : Hid (∀ i, i < n → w6.cell? ⟨w1.heap.size, 4 + i, none⟩ = some (.int .u8 (xs.getD i 0))) := fun i hi => (hb6.cell (p := ⟨w1.heap.size, 4 + i, none⟩) HZ5.out).trans (HC5.out i hi)
  have HK6 : Hid (∀ i, i < n → w6.cell? ⟨w0.heap.size, i, none⟩ = some (.int .u8 (xs.getD i 0))) := fun i hi => by
    have h01 := HS1.out (by omega)
    have h15 := HB5.out.size
    rw [hb6.cell (p := ⟨w0.heap.size, i, none⟩) (by show w0.heap.size < w5.heap.size; omega), HB5.out.cell (p := ⟨w0.heap.size, i, none⟩) h01]
    exact HC1.out i hi
  have HB6 : Hid (Below w0.heap.size w0 w6) := HB1.out.trans ((HB5.out.mono HB1.out.size).trans (hb6.mono (Nat.le_trans HB1.out.size HB5.out.size)))
  have htar := ZZisTarget_any p' n n xs w6 ⟨hl, fun h0 => by
    cases hpe : p' with
    | none => exact absurd (HP'.out hpe) (by omega)
    | some x => exact ⟨w0.heap.size, 0, by rw [HPX.out x hpe], fun i hi => by rw [Nat.zero_add]; exact HK6.out i hi⟩⟩ (by omega)
  clear hv hb6 HC5 HZ5 HB5 HS1 HC1 HB1
  cases ht : target xs with
  | false =>
    rw [ht] at htar
    clear HV
    go_wp2_with fail
    refine htar.mono ?_
    rintro e w7 ⟨rfl, hw7⟩
    subst hw7
    go_wp2_with fail
    go_ret
    exact ⟨rfl, HB6.out⟩
  | true =>
    have hv := HV.out ht
    rw [ht] at htar
    clear HV
    obtain ⟨hv1, hvi, hvj⟩ := hv
    have hpos : 0 < n := by
      rcases Nat.eq_zero_or_pos n with h0 | h0
      · obtain rfl : xs = [] := List.eq_nil_of_length_eq_zero (by omega)
        simp [target] at ht
      · exact h0
    have hpe : p' = some ⟨w0.heap.size, 0, none⟩ := by
      cases hpe : p' with
      | none => exact absurd (HP'.out hpe) (by omega)
      | some x => rw [HPX.out x hpe]
    have heq := hsEq_same w1.heap.size 4 w0.heap.size 0 n (n + 9) n xs w6 (by omega) HC6.out (fun i hi => by rw [Nat.zero_add]; exact HK6.out i hi)
    have HV1 : Hid (v1 = .slice (some ⟨w1.heap.size, 4, none⟩) n (n + 9)) := hv1
    have HPE : Hid (p' = some ⟨w0.heap.size, 0, none⟩) := hpe
    clear hv1 hpe ht HC6 HK6 HP' HPX
    subst hvi hvj
    go_wp2_with fail
    refine htar.mono ?_
    rintro e w7 ⟨rfl, hw7⟩
    subst hw7
    go_wp2_with fail
    rw [HV1.out, HPE.out]
    refine heq.mono ?_
    rintro e w8 ⟨rfl, q, rfl⟩
    go_wp2_with fail
    go_ret
    exact ⟨rfl, HB6.out.trans ⟨rfl, rfl, rfl, Nat.le_refl _, fun _ _ => rfl⟩⟩

set_option maxHeartbeats 400000 in
/-- A slice that is too long: true at once. -/
theorem top_long (p : Option Addr) (n c : Nat) (w : World) (hn : 524288 < n) :
    Calls Try.prog 7 #[.slice p n c] w fun e w' => e = .returned (.bool true) ∧ Below w.heap.size w w' := by
  by_cases h1 : n ≤ 1048576
  · have hzz := zzBytes_yes p n c w h1
    have hn3 : (524288 : Int) < (n : Int) := by omega
    go_enter Try.func7, Try.ntmps7
    go_wp2_with fail
    refine hzz.mono ?_
    rintro e w0 ⟨rfl, hw0⟩
    subst hw0
    go_wp2_with fail
    go_ret
    exact ⟨rfl, Below.refl _ _⟩
  · have hzz := zzBytes_no p n c w (by omega)
    go_enter Try.func7, Try.ntmps7
    go_wp2_with fail
    refine hzz.mono ?_
    rintro e w0 ⟨rfl, hw0⟩
    subst hw0
    go_wp2_with fail
    go_ret
    exact ⟨rfl, Below.refl _ _⟩

end Go.Proofs.Qxb6601856a
