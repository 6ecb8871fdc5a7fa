/-
  parseRequestLine at "GET " + zs + " HTTP/1.1".
-/
import Derived.Test.Qxb6601856aCut
import Derived.Test.Qxb6601856aPlain
import Derived.Lib.SlBytesConst
import Derived.Deep.QuietTactic
import Derived.BigQuiet
namespace Go.Proofs.Qxb6601856a
set_option linter.unusedVariables false
set_option linter.unusedSimpArgs false
open Go.RowKit

def ver : List Int := [72, 84, 84, 80, 47, 49, 46, 49]
/-- What follows the first space. -/
def restOf (zs : List Int) : List Int := zs ++ 32 :: ver
def lineOf (zs : List Int) : List Int := [71, 69, 84] ++ 32 :: restOf zs

theorem restOf_length (zs : List Int) : (restOf zs).length = zs.length + 9 := by simp [restOf, ver]
theorem lineOf_length (zs : List Int) : (lineOf zs).length = zs.length + 13 := by simp [lineOf, restOf_length]

theorem getD_append_left {a b : List Int} {i : Nat} (h : i < a.length) : (a ++ b).getD i 0 = a.getD i 0 := by
  simp [List.getD, List.getElem?_append_left h]
theorem getD_append_right {a b : List Int} {i : Nat} : (a ++ b).getD (a.length + i) 0 = b.getD i 0 := by
  simp [List.getD, List.getElem?_append_right]

theorem line_get (zs : List Int) (i : Nat) : (lineOf zs).getD (4 + i) 0 = (restOf zs).getD i 0 := by
  have : lineOf zs = [71, 69, 84, 32] ++ restOf zs := rfl
  rw [this]
  exact getD_append_right (a := [71, 69, 84, 32])
theorem rest_get_lo (zs : List Int) (i : Nat) (h : i < zs.length) : (restOf zs).getD i 0 = zs.getD i 0 := getD_append_left h
theorem rest_get_hi (zs : List Int) (i : Nat) : (restOf zs).getD (zs.length + (1 + i)) 0 = ver.getD i 0 := by
  unfold restOf
  rw [getD_append_right, Nat.add_comm 1 i]
  rfl

/-- What is left when only draws were made. -/
structure Drawn (w w' : World) : Prop where
  cell : ∀ a, w'.cell? a = w.cell? a
  size : w'.heap.size = w.heap.size
  below : Below w.heap.size w w'

theorem Drawn.mk' {w w' : World} (h : ∃ q, w' = w.drewN q) : Drawn w w' := by
  obtain ⟨q, rfl⟩ := h
  exact ⟨fun _ => rfl, rfl, ⟨rfl, rfl, rfl, Nat.le_refl _, fun _ _ => rfl⟩⟩

/-- Behind a literal of one byte and some draws. -/
theorem lit_drawn {w w1 : World} (h : Drawn (w.alloc (.cells #[.int .u8 32] 5 (1, 2))) w1) :
    (∀ b o, b < w.heap.size → w1.cell? ⟨b, o, none⟩ = w.cell? ⟨b, o, none⟩) ∧ w1.heap.size = w.heap.size + 1 ∧ Below w.heap.size w w1 := by
  refine ⟨fun b o hb => ?_, ?_, ?_⟩
  · rw [h.cell]
    exact ((Below.refl w.heap.size w).alloc (Nat.le_refl _) _).cell (p := ⟨b, o, none⟩) hb
  · rw [h.size]; simp
  · exact ((Below.refl _ _).alloc (Nat.le_refl _) _).trans (h.below.mono (by simp))

theorem lit_cell (w : World) : (w.alloc (.cells #[.int .u8 32] 5 (1, 2))).cell? ⟨w.heap.size, 0, none⟩ = some (.int .u8 32) := by
  rw [World.cell?_alloc_mark]; rfl

theorem lit_old (w : World) (b o : Nat) (hb : b < w.heap.size) : (w.alloc (.cells #[.int .u8 32] 5 (1, 2))).cell? ⟨b, o, none⟩ = w.cell? ⟨b, o, none⟩ :=
  ((Below.refl w.heap.size w).alloc (Nat.le_refl _) _).cell (p := ⟨b, o, none⟩) hb

/-- The first cut: "GET" and what follows. -/
theorem cut1 (b n : Nat) (zs : List Int) (w : World) (hl : zs.length = n) (hn : n ≤ 524288) (hb : b < w.heap.size)
    (hc : ∀ i, i < n + 13 → w.cell? ⟨b, i, none⟩ = some (.int .u8 ((lineOf zs).getD i 0))) :
    Calls Try.prog 25 #[.slice (some ⟨b, 0, none⟩) (n + 13) (n + 13), .slice (some ⟨w.heap.size, 0, none⟩) 1 1] (w.alloc (.cells #[.int .u8 32] 5 (1, 2))) fun e w' =>
      e = .returned (.tuple #[.slice (some ⟨b, 0, none⟩) 3 (n + 13), .slice (some ⟨b, 4, none⟩) (n + 9) (n + 9), .bool true]) ∧ Drawn (w.alloc (.cells #[.int .u8 32] 5 (1, 2))) w' := by
  refine (cut_hit b 0 (n + 13) (n + 13) w.heap.size 3 4 (n + 9) (n + 9) (lineOf zs) 32 _ (by rw [lineOf_length, hl]) (Nat.le_refl _) (by omega) ?_ (lit_cell w) ?_ (by omega) (by omega) rfl (by omega) (by omega)).mono fun e w' ⟨he, hq⟩ => ⟨he, Drawn.mk' hq⟩
  · intro i hi
    rw [Nat.zero_add, lit_old w b i hb]; exact hc i hi
  · exact indexByte_sp (restOf zs) [71, 69, 84] (by decide)

/-- The second cut. -/
theorem cut2 (b n s : Nat) (zs : List Int) (w : World) (hl : zs.length = n) (hn : n ≤ 524288) (hb : b < w.heap.size) (hr : ∀ x ∈ zs, 0 ≤ x ∧ x < 256) (hs : sp zs = s)
    (hc : ∀ i, i < n + 9 → w.cell? ⟨b, 4 + i, none⟩ = some (.int .u8 ((restOf zs).getD i 0))) :
    Calls Try.prog 25 #[.slice (some ⟨b, 4, none⟩) (n + 9) (n + 9), .slice (some ⟨w.heap.size, 0, none⟩) 1 1] (w.alloc (.cells #[.int .u8 32] 5 (1, 2))) fun e w' =>
      e = .returned (.tuple #[.slice (some ⟨b, 4, none⟩) s (n + 9), .slice (some ⟨b, s + 5, none⟩) (n + 8 - s) (n + 8 - s), .bool true]) ∧ Drawn (w.alloc (.cells #[.int .u8 32] 5 (1, 2))) w' := by
  have hle := sp_le zs
  refine (cut_hit b 4 (n + 9) (n + 9) w.heap.size s (s + 5) (n + 8 - s) (n + 8 - s) (restOf zs) 32 _ (by rw [restOf_length, hl]) (Nat.le_refl _) (by omega) ?_ (lit_cell w) ?_ (by omega) (by omega) (by omega) (by omega) (by omega)).mono fun e w' ⟨he, hq⟩ => ⟨he, Drawn.mk' hq⟩
  · intro i hi
    rw [lit_old w b _ hb]; exact hc i hi
  · rw [← hs]; exact indexByte_sp ver zs hr

set_option maxHeartbeats 1000000 in
theorem parse_yes (b n : Nat) (zs : List Int) (w : World) (hl : zs.length = n) (hn : n ≤ 524288) (hr : ∀ x ∈ zs, 0 ≤ x ∧ x < 256) (hb : b < w.heap.size)
    (hc : ∀ i, i < n + 13 → w.cell? ⟨b, i, none⟩ = some (.int .u8 ((lineOf zs).getD i 0))) (hsp : sp zs = n) (ht : target zs = true) :
    Calls Try.prog 20 #[.slice (some ⟨b, 0, none⟩) (n + 13) (n + 13)] w fun e w' =>
      e = .returned (.tuple #[.slice (some ⟨b, 0, none⟩) 3 (n + 13), .slice (some ⟨b, 4, none⟩) n (n + 9), .int .i64 1, .int .i64 1, .bool true]) ∧ Below w.heap.size w w' := by
  have kc := fun (w : World) (C : Array Value) (n c : Nat) => Lib.run_convert_bytes_const (P := Try.prog) w 22 5 C n c Try.underlying22 Try.underlying5
  have hc1 := cut1 b n zs w hl hn hb hc
  have HC : Hid (∀ i, i < n + 13 → w.cell? ⟨b, i, none⟩ = some (.int .u8 ((lineOf zs).getD i 0))) := hc
  clear hc
  go_enter Try.func20, Try.ntmps20
  go_wp2_with fail
  refine hc1.mono ?_
  rintro e w1 ⟨rfl, hd⟩
  clear hc1
  obtain ⟨ho1, hs1, hb1⟩ := lit_drawn hd
  have hc2 := cut2 b n n zs w1 hl hn (by omega) hr hsp (fun i hi => by rw [ho1 b _ hb, HC.out (4 + i) (by omega), line_get])
  have HB1 : Hid (Below w.heap.size w w1) := hb1
  have HO1 : Hid (∀ b o, b < w.heap.size → w1.cell? ⟨b, o, none⟩ = w.cell? ⟨b, o, none⟩) := ho1
  have HS1 : Hid (w1.heap.size = w.heap.size + 1) := hs1
  clear hd ho1 hs1 hb1
  rw [show n + 8 - n = 8 from by omega] at hc2
  go_wp2_with fail
  refine hc2.mono ?_
  rintro e w2 ⟨rfl, hd⟩
  clear hc2
  obtain ⟨ho2, hs2, hb2⟩ := lit_drawn hd
  have hcell : ∀ i, i < n + 13 → w2.cell? ⟨b, i, none⟩ = some (.int .u8 ((lineOf zs).getD i 0)) := fun i hi => by
    rw [ho2 b i (by have := HS1.out; omega), HO1.out b i hb, HC.out i hi]
  have HB2 : Hid (Below w.heap.size w w2) := HB1.out.trans (hb2.mono (by have := HS1.out; omega))
  clear hd ho2 hs2 hb2 HB1 HO1 HS1 HC
  have htok := isToken_caps b 0 3 (n + 13) [71, 69, 84] w2 rfl (by decide) (by decide) (by decide) (fun i hi => by
    rw [Nat.zero_add, hcell i (by omega)]
    have : i = 0 ∨ i = 1 ∨ i = 2 := by omega
    rcases this with rfl | rfl | rfl <;> rfl)
  have htar := isTarget_any (some ⟨b, 4, none⟩) n (n + 9) zs w2 ⟨hl, fun _ => ⟨b, 4, rfl, fun i hi => by rw [hcell (4 + i) (by omega), line_get, rest_get_lo zs i (by omega)]⟩⟩ (by omega)
  rw [ht] at htar
  have hvv : ∀ k, k < 8 → w2.cell? ⟨b, n + 5 + k, none⟩ = some (.int .u8 (ver.getD k 0)) := fun k hk => by
    rw [hcell (n + 5 + k) (by omega), show n + 5 + k = 4 + (zs.length + (1 + k)) by omega, line_get, rest_get_hi]
  have hcv : ∀ c, (convert 22 9 (.slice (some ⟨b, n + 5, none⟩) 5 c)).run Try.prog w2 = .ok (.string ⟨#[72, 84, 84, 80, 47]⟩) w2 := fun c =>
    run_convert_bytes_arg w2 22 5 Try.underlying22 Try.underlying5 b (n + 5) 5 c [72, 84, 84, 80, 47] rfl (fun i hi => by
      rw [hvv i (by omega)]
      have : i = 0 ∨ i = 1 ∨ i = 2 ∨ i = 3 ∨ i = 4 := by omega
      rcases this with rfl | rfl | rfl | rfl | rfl <;> rfl) 9 Try.underlying9
  have hv5 : w2.cell? ⟨b, n + 5 + 5, none⟩ = some (.int .u8 49) := hvv 5 (by decide)
  have hv6 : w2.cell? ⟨b, n + 5 + 6, none⟩ = some (.int .u8 46) := hvv 6 (by decide)
  have hv7 : w2.cell? ⟨b, n + 5 + 7, none⟩ = some (.int .u8 49) := hvv 7 (by decide)
  clear hcell hvv hr hsp ht
  go_wp2_with fail
  refine htok.mono ?_
  rintro e w' ⟨rfl, hw'⟩
  subst hw'
  go_wp2_with fail
  refine htar.mono ?_
  rintro e w3 ⟨rfl, hw3⟩
  subst hw3
  go_wp2_with fail
  refine (isDigit_one _).mono ?_
  rintro e w4 ⟨rfl, hw4⟩
  subst hw4
  go_wp2_with fail
  refine (isDigit_one _).mono ?_
  rintro e w5 ⟨rfl, hw5⟩
  subst hw5
  go_wp2_with fail
  go_quiet (fail)
  go_wp2
  exact bodyPost_ret (v := .tuple #[.slice (some ⟨b, 0, none⟩) 3 (n + 13), .slice (some ⟨b, 4, none⟩) n (n + 9), .int .i64 1, .int .i64 1, .bool true]) (by simp [results, Try.results20, go_sem]) rfl ⟨rfl, HB2.out.trans ⟨rfl, rfl, rfl, Nat.le_refl _, fun _ _ => rfl⟩⟩

/-- What the two cuts leave to see in the last world. -/
theorem parse_cells {b n : Nat} {zs : List Int} {w w1 w2 : World} (hb : b < w.heap.size) (hs1 : w1.heap.size = w.heap.size + 1) (HO1 : ∀ b o, b < w.heap.size → w1.cell? ⟨b, o, none⟩ = w.cell? ⟨b, o, none⟩)
    (HC : ∀ i, i < n + 13 → w.cell? ⟨b, i, none⟩ = some (.int .u8 ((lineOf zs).getD i 0))) (ho2 : ∀ b o, b < w1.heap.size → w2.cell? ⟨b, o, none⟩ = w1.cell? ⟨b, o, none⟩) :
    ∀ i, i < n + 13 → w2.cell? ⟨b, i, none⟩ = some (.int .u8 ((lineOf zs).getD i 0)) := fun i hi => by
  rw [ho2 b i (by omega), HO1 b i hb, HC i hi]

set_option maxHeartbeats 1000000 in
theorem parse_no_target (b n s : Nat) (zs : List Int) (w : World) (hl : zs.length = n) (hn : n ≤ 524288) (hr : ∀ x ∈ zs, 0 ≤ x ∧ x < 256) (hb : b < w.heap.size)
    (hc : ∀ i, i < n + 13 → w.cell? ⟨b, i, none⟩ = some (.int .u8 ((lineOf zs).getD i 0))) (hsp : sp zs = s) (ht : target (zs.take s) = false) :
    Calls Try.prog 20 #[.slice (some ⟨b, 0, none⟩) (n + 13) (n + 13)] w fun e w' =>
      e = .returned (.tuple #[.slice none 0 0, .slice none 0 0, .int .i64 0, .int .i64 0, .bool false]) ∧ Below w.heap.size w w' := by
  have kc := fun (w : World) (C : Array Value) (n c : Nat) => Lib.run_convert_bytes_const (P := Try.prog) w 22 5 C n c Try.underlying22 Try.underlying5
  have hc1 := cut1 b n zs w hl hn hb hc
  have HC : Hid (∀ i, i < n + 13 → w.cell? ⟨b, i, none⟩ = some (.int .u8 ((lineOf zs).getD i 0))) := hc
  clear hc
  have hsn : s ≤ n := by have := sp_le zs; omega
  go_enter Try.func20, Try.ntmps20
  go_wp2_with fail
  refine hc1.mono ?_
  rintro e w1 ⟨rfl, hd⟩
  clear hc1
  obtain ⟨ho1, hs1, hb1⟩ := lit_drawn hd
  have hc2 := cut2 b n s zs w1 hl hn (by omega) hr hsp (fun i hi => by rw [ho1 b _ hb, HC.out (4 + i) (by omega), line_get])
  have HB1 : Hid (Below w.heap.size w w1) := hb1
  have HO1 : Hid (∀ b o, b < w.heap.size → w1.cell? ⟨b, o, none⟩ = w.cell? ⟨b, o, none⟩) := ho1
  have HS1 : Hid (w1.heap.size = w.heap.size + 1) := hs1
  clear hd ho1 hs1 hb1
  generalize hM : n + 8 - s = M at hc2
  have hMn : n + 8 ≤ M + s := by omega
  have hMx : M ≤ n + 8 := by omega
  clear hM
  go_wp2_with fail
  refine hc2.mono ?_
  rintro e w2 ⟨rfl, hd⟩
  clear hc2
  obtain ⟨ho2, hs2, hb2⟩ := lit_drawn hd
  have hcell := parse_cells hb HS1.out HO1.out HC.out ho2
  have HB2 : Hid (Below w.heap.size w w2) := HB1.out.trans (hb2.mono (by have := HS1.out; omega))
  clear hd ho2 hs2 hb2 HB1 HO1 HS1 HC
  have htok := isToken_caps b 0 3 (n + 13) [71, 69, 84] w2 rfl (by decide) (by decide) (by decide) (fun i hi => by
    rw [Nat.zero_add, hcell i (by omega)]
    have : i = 0 ∨ i = 1 ∨ i = 2 := by omega
    rcases this with rfl | rfl | rfl <;> rfl)
  have htar := isTarget_any (some ⟨b, 4, none⟩) s (n + 9) (zs.take s) w2 ⟨by simp; omega, fun _ => ⟨b, 4, rfl, fun i hi => by
    rw [hcell (4 + i) (by omega), line_get, rest_get_lo zs i (by omega)]
    simp [List.getD, List.getElem?_take, hi]⟩⟩ (by omega)
  rw [ht] at htar
  clear hcell hr hsp ht
  go_wp2_with fail
  refine htok.mono ?_
  rintro e w' ⟨rfl, hw'⟩
  subst hw'
  go_wp2_with fail
  refine htar.mono ?_
  rintro e w3 ⟨rfl, hw3⟩
  subst hw3
  go_wp2_with fail
  exact bodyPost_ret (v := .tuple #[.slice none 0 0, .slice none 0 0, .int .i64 0, .int .i64 0, .bool false]) (by simp [results, Try.results20, go_sem]) rfl ⟨rfl, HB2.out⟩

set_option maxHeartbeats 1000000 in
theorem parse_no_space (b n s : Nat) (zs : List Int) (w : World) (hl : zs.length = n) (hn : n ≤ 524288) (hr : ∀ x ∈ zs, 0 ≤ x ∧ x < 256) (hb : b < w.heap.size)
    (hc : ∀ i, i < n + 13 → w.cell? ⟨b, i, none⟩ = some (.int .u8 ((lineOf zs).getD i 0))) (hsp : sp zs = s) (hlt : s < n) (ht : target (zs.take s) = true) :
    Calls Try.prog 20 #[.slice (some ⟨b, 0, none⟩) (n + 13) (n + 13)] w fun e w' =>
      e = .returned (.tuple #[.slice none 0 0, .slice none 0 0, .int .i64 0, .int .i64 0, .bool false]) ∧ Below w.heap.size w w' := by
  have kc := fun (w : World) (C : Array Value) (n c : Nat) => Lib.run_convert_bytes_const (P := Try.prog) w 22 5 C n c Try.underlying22 Try.underlying5
  have hc1 := cut1 b n zs w hl hn hb hc
  have HC : Hid (∀ i, i < n + 13 → w.cell? ⟨b, i, none⟩ = some (.int .u8 ((lineOf zs).getD i 0))) := hc
  clear hc
  have hsn : s ≤ n := by have := sp_le zs; omega
  go_enter Try.func20, Try.ntmps20
  go_wp2_with fail
  refine hc1.mono ?_
  rintro e w1 ⟨rfl, hd⟩
  clear hc1
  obtain ⟨ho1, hs1, hb1⟩ := lit_drawn hd
  have hc2 := cut2 b n s zs w1 hl hn (by omega) hr hsp (fun i hi => by rw [ho1 b _ hb, HC.out (4 + i) (by omega), line_get])
  have HB1 : Hid (Below w.heap.size w w1) := hb1
  have HO1 : Hid (∀ b o, b < w.heap.size → w1.cell? ⟨b, o, none⟩ = w.cell? ⟨b, o, none⟩) := ho1
  have HS1 : Hid (w1.heap.size = w.heap.size + 1) := hs1
  clear hd ho1 hs1 hb1
  generalize hM : n + 8 - s = M at hc2
  have hMn : n + 8 ≤ M + s := by omega
  have hMx : M ≤ n + 8 := by omega
  clear hM
  have hM8 : (((M : Nat) : Int) != 8) = true := by rw [bne_iff_ne]; omega
  go_wp2_with fail
  refine hc2.mono ?_
  rintro e w2 ⟨rfl, hd⟩
  clear hc2
  obtain ⟨ho2, hs2, hb2⟩ := lit_drawn hd
  have hcell := parse_cells hb HS1.out HO1.out HC.out ho2
  have HB2 : Hid (Below w.heap.size w w2) := HB1.out.trans (hb2.mono (by have := HS1.out; omega))
  clear hd ho2 hs2 hb2 HB1 HO1 HS1 HC
  have htok := isToken_caps b 0 3 (n + 13) [71, 69, 84] w2 rfl (by decide) (by decide) (by decide) (fun i hi => by
    rw [Nat.zero_add, hcell i (by omega)]
    have : i = 0 ∨ i = 1 ∨ i = 2 := by omega
    rcases this with rfl | rfl | rfl <;> rfl)
  have htar := isTarget_any (some ⟨b, 4, none⟩) s (n + 9) (zs.take s) w2 ⟨by simp; omega, fun _ => ⟨b, 4, rfl, fun i hi => by
    rw [hcell (4 + i) (by omega), line_get, rest_get_lo zs i (by omega)]
    simp [List.getD, List.getElem?_take, hi]⟩⟩ (by omega)
  rw [ht] at htar
  clear hcell hr hsp ht
  go_wp2_with fail
  refine htok.mono ?_
  rintro e w' ⟨rfl, hw'⟩
  subst hw'
  go_wp2_with fail
  refine htar.mono ?_
  rintro e w3 ⟨rfl, hw3⟩
  subst hw3
  go_wp2_with fail
  exact bodyPost_ret (v := .tuple #[.slice none 0 0, .slice none 0 0, .int .i64 0, .int .i64 0, .bool false]) (by simp [results, Try.results20, go_sem]) rfl ⟨rfl, HB2.out⟩

theorem target_space (zs : List Int) (h : (32 : Int) ∈ zs) : target zs = false := by
  unfold target
  have : zs.all good = false := by
    rw [List.all_eq_false]
    exact ⟨32, h, by decide⟩
  simp [this]

set_option maxHeartbeats 400000 in
/-- The shim, at once for every way. -/
theorem ZZparse (b n : Nat) (zs : List Int) (w : World) (hl : zs.length = n) (hn : n ≤ 524288) (hr : ∀ x ∈ zs, 0 ≤ x ∧ x < 256) (hb : b < w.heap.size)
    (hc : ∀ i, i < n + 13 → w.cell? ⟨b, i, none⟩ = some (.int .u8 ((lineOf zs).getD i 0))) :
    Calls Try.prog 10 #[.slice (some ⟨b, 0, none⟩) (n + 13) (n + 13)] w fun e w' =>
      (∃ v0 v1 i j, e = .returned (.tuple #[v0, v1, .int .i64 i, .int .i64 j, .bool (target zs)]) ∧ (target zs = true → v1 = .slice (some ⟨b, 4, none⟩) n (n + 9) ∧ i = 1 ∧ j = 1)) ∧ Below w.heap.size w w' := by
  have key : Calls Try.prog 20 #[.slice (some ⟨b, 0, none⟩) (n + 13) (n + 13)] w fun e w' =>
      (∃ v0 v1 i j, e = .returned (.tuple #[v0, v1, .int .i64 i, .int .i64 j, .bool (target zs)]) ∧ (target zs = true → v1 = .slice (some ⟨b, 4, none⟩) n (n + 9) ∧ i = 1 ∧ j = 1)) ∧ Below w.heap.size w w' := by
    by_cases hs : sp zs = n
    · cases ht : target zs with
      | true => exact (parse_yes b n zs w hl hn hr hb hc hs ht).mono fun e w' ⟨he, hw⟩ => ⟨⟨_, _, _, _, he, fun _ => ⟨rfl, rfl, rfl⟩⟩, hw⟩
      | false =>
        exact (parse_no_target b n n zs w hl hn hr hb hc hs (by rw [List.take_of_length_le (by omega)]; exact ht)).mono fun e w' ⟨he, hw⟩ => ⟨⟨_, _, _, _, he, fun h => by cases h⟩, hw⟩
    · have hle := sp_le zs
      have ht : target zs = false := target_space zs (mem_of_sp zs (by omega))
      rw [ht]
      cases ht2 : target (zs.take (sp zs)) with
      | true => exact (parse_no_space b n _ zs w hl hn hr hb hc rfl (by omega) ht2).mono fun e w' ⟨he, hw⟩ => ⟨⟨_, _, _, _, he, fun h => by cases h⟩, hw⟩
      | false => exact (parse_no_target b n _ zs w hl hn hr hb hc rfl ht2).mono fun e w' ⟨he, hw⟩ => ⟨⟨_, _, _, _, he, fun h => by cases h⟩, hw⟩
  clear hc
  go_enter Try.func10, Try.ntmps10
  go_wp2_with fail
  refine key.mono ?_
  rintro e w1 ⟨⟨v0, v1, i, j, rfl, hv⟩, hb1⟩
  have HV : Hid (target zs = true → v1 = .slice (some ⟨b, 4, none⟩) n (n + 9) ∧ i = 1 ∧ j = 1) := hv
  clear hv key
  go_wp2_with fail
  exact bodyPost_ret (v := .tuple #[v0, v1, .int .i64 i, .int .i64 j, .bool (target zs)]) (by simp [results, Try.results10, go_sem]) rfl ⟨⟨v0, v1, i, j, rfl, HV.out⟩, hb1⟩

end Go.Proofs.Qxb6601856a
