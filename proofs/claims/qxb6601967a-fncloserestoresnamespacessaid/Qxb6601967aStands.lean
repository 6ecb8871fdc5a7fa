/-
  zzOuterStands says true.
-/
import Derived.Test.Qxb6601967aSizes2
import Derived.Test.Qxb6601967aPlain2
namespace Go.Proofs.Qxb6601967a
set_option linter.unusedVariables false
set_option linter.unusedSimpArgs false
open Go.RowKit Go.Maps

section
variable (w : World) (base r : Nat) (ov : Value) (s : ByteArray) (dv : Value)

set_option maxHeartbeats 4000000 in
set_option maxRecDepth 100000 in
theorem stands_none (D : List Dcl) (E : Nat → ByteArray) (cs : ByteArray) (b o n c : Nat) (hlen : D.length = n) (hn : n ≤ 4096) (hblt : b < w.heap.size) (hE0 : E 0 = cs)
    (hE1 : ∀ k d, D[k]? = some d → d.p = mt → d.r = E k ∧ E (k + 1) = d.s ∧ d.b = false) (hE2 : ∀ k d, D[k]? = some d → d.p ≠ mt → E (k + 1) = E k ∧ d.r = mt ∧ d.b = false)
    (hcc : ∀ j d, D[j]? = some d → w.cell? ⟨b, o + j * 2, none⟩ = some (.string d.p) ∧ w.cell? ⟨b, o + j * 2 + 1, none⟩ = some (.string d.s)) (hsm : ∀ d ∈ D, d.p.size ≤ maxLen) (h : Rd w base r ov s dv D none) :
    Calls Try.prog 43 #[.pointer (some ⟨r, 0, none⟩), .string cs, .slice (some ⟨b, o, none⟩) n c] w fun e w' => e = .returned (.bool true) ∧ Fr w.heap.size w w' := by
  have HLEN : Hid (D.length = n) := hlen
  have HE1 : Hid (∀ k d, D[k]? = some d → d.p = mt → d.r = E k ∧ E (k + 1) = d.s ∧ d.b = false) := hE1
  have HE2 : Hid (∀ k d, D[k]? = some d → d.p ≠ mt → E (k + 1) = E k ∧ d.r = mt ∧ d.b = false) := hE2
  have HCC : Hid (∀ j d, D[j]? = some d → w.cell? ⟨b, o + j * 2, none⟩ = some (.string d.p) ∧ w.cell? ⟨b, o + j * 2 + 1, none⟩ = some (.string d.s)) := hcc
  have HSM : Hid (∀ d ∈ D, d.p.size ≤ maxLen) := hsm
  have HBL : Hid (b < w.heap.size) := hblt
  have HR : Hid (Rd w base r ov s dv D none) := h
  have hdc := declCount_any w _ _ _ _ _ _ _ h
  have hpn := prefixesNil_any w _ _ _ _ _ _ _ h
  rw [hlen] at hdc
  have hnn' : ((n : Int) != (n : Int)) = false := by simp
  simp only [Option.isNone_none] at hpn
  subst hE0
  clear h hlen hE1 hE2 hcc hsm hblt
  go_enter Try.func43, Try.ntmps43
  go_wp2_with fail
  refine hdc.mono ?_
  rintro e w' ⟨rfl, hw'⟩
  have hw'' := hw'.symm
  subst hw''
  clear hdc
  go_wp2_with fail
  refine hpn.mono ?_
  rintro e w' ⟨rfl, hw'⟩
  have hw'' := hw'.symm
  subst hw''
  clear hpn
  go_wp2_with fail
  go_loopw [8, 9, 10] (fun cv dd x wr => ∃ k : Nat, k ≤ n ∧ x = .int .i64 k ∧ cv = .string (E k) ∧ dd = .int .i64 0 ∧ Rd wr base r ov s dv D none ∧ Fr w.heap.size w wr) (fun _ _ x _ => n - (intOf x).toNat)
  case atStart => exact ⟨0, Nat.zero_le _, rfl, rfl, rfl, HR.out, Fr.refl _ _⟩
  case round =>
    obtain ⟨k, hk, rfl, rfl, rfl, hrd, hfr⟩ := hrel
    have hbase : w.heap.size ≤ wr.heap.size := hfr.below.size
    have HRR : Hid (Rd wr base r ov s dv D none) := hrd
    have HFF : Hid (Fr w.heap.size w wr) := hfr
    by_cases hlt : k < n
    · obtain ⟨d, hd⟩ : ∃ d, D[k]? = some d := ⟨_, List.getElem?_eq_getElem (by rw [HLEN.out]; exact hlt)⟩
      have hki : (k : Int) < (n : Int) := by omega
      by_cases hp : d.p = mt
      · obtain ⟨e1, e2, e3⟩ := HE1.out k d hd hp
        have hda := declAt_any wr _ _ _ _ _ _ _ k d hrd hd (by rw [HLEN.out]; omega)
        rw [e1, e3] at hda
        have HEE : Hid (E (k + 1) = d.s) := e2
        have HP : Hid (d.p = mt) := hp
        have hpe := isEmpty_mt hp
        clear hp e1 e2 e3 hrd hfr
        go_wp2_with fail
        refine hda.mono ?_
        rintro e w8 ⟨rfl, hf8⟩
        clear hda
        have hfb : Fr w.heap.size w w8 := HFF.out.trans ⟨hf8.below.mono hbase, hf8.tag⟩
        have HR8 : Hid (Rd w8 base r ov s dv D none) := HRR.out.below hf8.below (Nat.le_refl _)
        have HF8 : Hid (Fr w.heap.size w w8) := hfb
        have HC8 : Hid (∀ j d, D[j]? = some d → w8.cell? ⟨b, o + j * 2, none⟩ = some (.string d.p) ∧ w8.cell? ⟨b, o + j * 2 + 1, none⟩ = some (.string d.s)) := fun j d hj => ⟨(hfb.below.cell (p := ⟨b, o + j * 2, none⟩) HBL.out).trans (HCC.out j d hj).1, (hfb.below.cell (p := ⟨b, o + j * 2 + 1, none⟩) HBL.out).trans (HCC.out j d hj).2⟩
        obtain ⟨c0, c1⟩ := HC8.out k d hd
        clear hfb hf8 HRR HFF
        go_wp2_with fail
        go_roundw
        case rel => exact ⟨k + 1, by omega, by go_num, by rw [HEE.out], rfl, HR8.out, HF8.out⟩
        case measure => simp [intOf]; omega
      · obtain ⟨e1, e2, e3⟩ := HE2.out k d hd hp
        have HEE : Hid (E (k + 1) = E k) := e1
        have hda := declAt_any wr _ _ _ _ _ _ _ k d hrd hd (by rw [HLEN.out]; omega)
        rw [e2, e3] at hda
        simp only [mt] at hda
        have hpe := isEmpty_ne hp
        clear hp e1 e2 e3 hrd hfr
        go_wp2_with fail
        refine hda.mono ?_
        rintro e w8 ⟨rfl, hf8⟩
        clear hda
        have hfb : Fr w.heap.size w w8 := HFF.out.trans ⟨hf8.below.mono hbase, hf8.tag⟩
        have HR8 : Hid (Rd w8 base r ov s dv D none) := HRR.out.below hf8.below (Nat.le_refl _)
        have HF8 : Hid (Fr w.heap.size w w8) := hfb
        have HC8 : Hid (∀ j d, D[j]? = some d → w8.cell? ⟨b, o + j * 2, none⟩ = some (.string d.p) ∧ w8.cell? ⟨b, o + j * 2 + 1, none⟩ = some (.string d.s)) := fun j d hj => ⟨(hfb.below.cell (p := ⟨b, o + j * 2, none⟩) HBL.out).trans (HCC.out j d hj).1, (hfb.below.cell (p := ⟨b, o + j * 2 + 1, none⟩) HBL.out).trans (HCC.out j d hj).2⟩
        obtain ⟨c0, c1⟩ := HC8.out k d hd
        clear hfb hf8 HRR HFF
        go_wp2_with fail
        go_roundw
        case rel => exact ⟨k + 1, by omega, by go_num, by rw [HEE.out], rfl, HR8.out, HF8.out⟩
        case measure => simp [intOf]; omega
    · obtain rfl : k = n := by omega
      clear hrd hfr
      go_wp2_with fail
      go_ret
      exact ⟨rfl, HFF.out⟩

end

end Go.Proofs.Qxb6601967a
