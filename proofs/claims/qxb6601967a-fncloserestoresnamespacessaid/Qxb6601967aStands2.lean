/-
  zzOuterStands says true.
-/
import Derived.Test.Qxb6601967aSizes2
import Derived.Test.Qxb6601967aPlain2
namespace Go.Proofs.Qxb6601967a
set_option linter.unusedVariables false
set_option linter.unusedSimpArgs false
open Go.RowKit Go.Maps

section
variable (w : World) (base r : Nat) (ov : Value) (s : ByteArray) (dv : Value)

set_option maxHeartbeats 4000000 in
set_option maxRecDepth 100000 in
theorem stands_map (mb nn : Nat) (D : List Dcl) (E : Nat → ByteArray) (cs : ByteArray) (b o n c : Nat) (hlen : D.length = n) (hn : n ≤ 4096) (hblt : b < w.heap.size) (hE0 : E 0 = cs)
    (hE1 : ∀ k d, D[k]? = some d → d.p = mt → d.r = E k ∧ E (k + 1) = d.s ∧ d.b = false) (hE2 : ∀ k d, D[k]? = some d → d.p ≠ mt → E (k + 1) = E k ∧ d.r = mt ∧ d.b = false)
    (hcc : ∀ j d, D[j]? = some d → w.cell? ⟨b, o + j * 2, none⟩ = some (.string d.p) ∧ w.cell? ⟨b, o + j * 2 + 1, none⟩ = some (.string d.s)) (hsm : ∀ d ∈ D, d.p.size ≤ maxLen) (h : Rd w base r ov s dv (recs D D.length) (some (mb, nn, (st D).1, (st D).2))) :
    Calls Try.prog 43 #[.pointer (some ⟨r, 0, none⟩), .string cs, .slice (some ⟨b, o, none⟩) n c] w fun e w' => e = .returned (.bool true) ∧ Fr w.heap.size w w' := by
  have HLEN : Hid (D.length = n) := hlen
  have HE1 : Hid (∀ k d, D[k]? = some d → d.p = mt → d.r = E k ∧ E (k + 1) = d.s ∧ d.b = false) := hE1
  have HE2 : Hid (∀ k d, D[k]? = some d → d.p ≠ mt → E (k + 1) = E k ∧ d.r = mt ∧ d.b = false) := hE2
  have HCC : Hid (∀ j d, D[j]? = some d → w.cell? ⟨b, o + j * 2, none⟩ = some (.string d.p) ∧ w.cell? ⟨b, o + j * 2 + 1, none⟩ = some (.string d.s)) := hcc
  have HSM : Hid (∀ d ∈ D, d.p.size ≤ maxLen) := hsm
  have HBL : Hid (b < w.heap.size) := hblt
  have HR : Hid (Rd w base r ov s dv (recs D D.length) (some (mb, nn, (st D).1, (st D).2))) := h
  have hdc := declCount_any w _ _ _ _ _ _ _ h
  have hpn := prefixesNil_any w _ _ _ _ _ _ _ h
  rw [recs_length] at hdc
  have HCL : Hid (cl D ≤ n) := by have h1 := cl_le D; rw [hlen] at h1; exact h1
  rw [hlen] at hdc
  have hnn' : ((n : Int) != (n : Int)) = false := by simp
  simp only [Option.isNone_some] at hpn
  subst hE0
  clear h hlen hE1 hE2 hcc hsm hblt
  go_enter Try.func43, Try.ntmps43
  go_wp2_with fail
  refine hdc.mono ?_
  rintro e w' ⟨rfl, hw'⟩
  have hw'' := hw'.symm
  subst hw''
  clear hdc
  go_wp2_with fail
  refine hpn.mono ?_
  rintro e w' ⟨rfl, hw'⟩
  have hw'' := hw'.symm
  subst hw''
  clear hpn
  go_wp2_with fail
  go_loopw [8, 9, 10] (fun cv dd x wr => ∃ k : Nat, k ≤ n ∧ x = .int .i64 k ∧ cv = .string (E k) ∧ (∃ dc : Nat, dc + cl (D.drop k) = cl D ∧ dd = .int .i64 dc) ∧ Rd wr base r ov s dv (recs D D.length) (some (mb, nn, (st D).1, (st D).2)) ∧ Fr w.heap.size w wr) (fun _ _ x _ => n - (intOf x).toNat)
  case atStart => exact ⟨0, Nat.zero_le _, rfl, rfl, ⟨0, by simp, rfl⟩, HR.out, Fr.refl _ _⟩
  case round =>
    obtain ⟨k, hk, rfl, rfl, ⟨dc, hct, rfl⟩, hrd, hfr⟩ := hrel
    have hbase : w.heap.size ≤ wr.heap.size := hfr.below.size
    have HRR : Hid (Rd wr base r ov s dv (recs D D.length) (some (mb, nn, (st D).1, (st D).2))) := hrd
    have HFF : Hid (Fr w.heap.size w wr) := hfr
    have HCT : Hid (dc + cl (D.drop k) = cl D) := hct
    have hcb : dc ≤ 4096 := by have := HCL.out; omega
    clear hct
    by_cases hlt : k < n
    · obtain ⟨d, hd⟩ : ∃ d, D[k]? = some d := ⟨_, List.getElem?_eq_getElem (by rw [HLEN.out]; exact hlt)⟩
      have hki : (k : Int) < (n : Int) := by omega
      have HDR : Hid (cl (D.drop k) = (if d.p = mt then 0 else if ((D.drop (k + 1)).any fun x => decide (x.p = d.p)) then 0 else 1) + cl (D.drop (k + 1))) := cl_drop D k d hd
      by_cases hp : d.p = mt
      · obtain ⟨e1, e2, e3⟩ := HE1.out k d hd hp
        have hd' : (recs D D.length)[k]? = some d := by
          rw [recs_get, hd]
          simp [recAt, hp]
        have hda := declAt_any wr _ _ _ _ _ _ _ k d hrd hd' (by rw [recs_length, HLEN.out]; omega)
        rw [e1, e3] at hda
        have HEE : Hid (E (k + 1) = d.s) := e2
        have HP : Hid (d.p = mt) := hp
        have hpe := isEmpty_mt hp
        clear hp e1 e2 e3 hrd hfr hd'
        go_wp2_with fail
        refine hda.mono ?_
        rintro e w8 ⟨rfl, hf8⟩
        clear hda
        have hfb : Fr w.heap.size w w8 := HFF.out.trans ⟨hf8.below.mono hbase, hf8.tag⟩
        have HR8 : Hid (Rd w8 base r ov s dv (recs D D.length) (some (mb, nn, (st D).1, (st D).2))) := HRR.out.below hf8.below (Nat.le_refl _)
        have HF8 : Hid (Fr w.heap.size w w8) := hfb
        have HC8 : Hid (∀ j d, D[j]? = some d → w8.cell? ⟨b, o + j * 2, none⟩ = some (.string d.p) ∧ w8.cell? ⟨b, o + j * 2 + 1, none⟩ = some (.string d.s)) := fun j d hj => ⟨(hfb.below.cell (p := ⟨b, o + j * 2, none⟩) HBL.out).trans (HCC.out j d hj).1, (hfb.below.cell (p := ⟨b, o + j * 2 + 1, none⟩) HBL.out).trans (HCC.out j d hj).2⟩
        obtain ⟨c0, c1⟩ := HC8.out k d hd
        clear hfb hf8 HRR HFF
        go_wp2_with fail
        go_roundw
        case rel => exact ⟨k + 1, by omega, by go_num, by rw [HEE.out], ⟨dc, by have h1 := HCT.out; have h2 := HDR.out; rw [if_pos HP.out] at h2; omega, rfl⟩, HR8.out, HF8.out⟩
        case measure => simp [intOf]; omega
      · obtain ⟨e1, e2, e3⟩ := HE2.out k d hd hp
        have HEE : Hid (E (k + 1) = E k) := e1
        obtain ⟨R, hR⟩ : ∃ R, R = ((st (D.take k)).1 d.p).getD mt := ⟨_, rfl⟩
        obtain ⟨BB, hB⟩ : ∃ BB, BB = ((st (D.take k)).1 d.p).isSome := ⟨_, rfl⟩
        have hd' : (recs D D.length)[k]? = some ⟨d.p, d.s, R, BB⟩ := by
          rw [recs_get, hd]
          simp [recAt, hp, hR, hB, show k < D.length by rw [HLEN.out]; exact hlt]
        have HRE : Hid (R = ((st (D.take k)).1 d.p).getD mt) := hR
        have HBE : Hid (BB = ((st (D.take k)).1 d.p).isSome) := hB
        have hda := declAt_any wr _ _ _ _ _ _ _ k ⟨d.p, d.s, R, BB⟩ hrd hd' (by rw [recs_length, HLEN.out]; omega)
        have hpe := isEmpty_ne hp
        have HP : Hid (d.p ≠ mt) := hp
        clear hp e1 e2 e3 hrd hfr hd' hR hB
        go_wp2_with fail
        refine hda.mono ?_
        rintro e w8 ⟨rfl, hf8⟩
        clear hda
        have hfb : Fr w.heap.size w w8 := HFF.out.trans ⟨hf8.below.mono hbase, hf8.tag⟩
        have HR8 : Hid (Rd w8 base r ov s dv (recs D D.length) (some (mb, nn, (st D).1, (st D).2))) := HRR.out.below hf8.below (Nat.le_refl _)
        have HF8 : Hid (Fr w.heap.size w w8) := hfb
        have HC8 : Hid (∀ j d, D[j]? = some d → w8.cell? ⟨b, o + j * 2, none⟩ = some (.string d.p) ∧ w8.cell? ⟨b, o + j * 2 + 1, none⟩ = some (.string d.s)) := fun j d hj => ⟨(hfb.below.cell (p := ⟨b, o + j * 2, none⟩) HBL.out).trans (HCC.out j d hj).1, (hfb.below.cell (p := ⟨b, o + j * 2 + 1, none⟩) HBL.out).trans (HCC.out j d hj).2⟩
        obtain ⟨c0, c1⟩ := HC8.out k d hd
        clear hfb hf8 HRR HFF
        go_wp2_with fail
        go_loop [15, 16, 17] (fun vr vb x => vr = .string ⟨#[]⟩ ∧ vb = .bool false ∧ (∃ j : Nat, j ≤ k ∧ x = .int .i64 ((j : Int) - 1) ∧ ∀ j' d', j ≤ j' → j' < k → D[j']? = some d' → d'.p ≠ d.p)) (fun _ _ x => (intOf x + 1).toNat)
        case atStart => exact ⟨rfl, rfl, ⟨k, Nat.le_refl _, by go_num, fun j' d' h1 h2 => by omega⟩⟩
        case round =>
          obtain ⟨rfl, rfl, ⟨j, hj, rfl, hno⟩⟩ := hrel
          have HNO : Hid (∀ j' d', j ≤ j' → j' < k → D[j']? = some d' → d'.p ≠ d.p) := hno
          clear hno
          cases j with
          | zero =>
            have hst : (st (D.take k)).1 d.p = none := st_none _ _ (fun x hx hm => by
              obtain ⟨j', hj'⟩ := List.getElem?_of_mem hx
              have hlk : j' < k := by have := (List.getElem?_eq_some_iff.1 hj').1; simp at this; omega
              rw [List.getElem?_take, if_pos hlk] at hj'
              exact HNO.out j' x (Nat.zero_le _) hlk hj')
            have hRm : R = mt := by rw [HRE.out, hst]; rfl
            have hBm : BB = false := by rw [HBE.out, hst]; rfl
            have hre := isEmpty_mt hRm
            clear hst hRm HRE HBE
            subst hBm
            have e0 : (((0 : Nat) : Int) - 1) = -1 := by omega
            rw [e0]
            go_wp2_with fail
            go_loop [18, 19] (fun la x => la = .bool true ∧ ∃ j : Nat, k + 1 ≤ j ∧ j ≤ n ∧ x = .int .i64 j ∧ ∀ j' d', k < j' → j' < j → D[j']? = some d' → d'.p ≠ d.p) (fun _ x => n - (intOf x).toNat)
            case atStart => exact ⟨rfl, k + 1, Nat.le_refl _, by omega, by go_num, fun j' d' h1 h2 => by omega⟩
            case round =>
              obtain ⟨rfl, j3, hj1, hj2, rfl, hno3⟩ := hrel
              have HNO3 : Hid (∀ j' d', k < j' → j' < j3 → D[j']? = some d' → d'.p ≠ d.p) := hno3
              clear hno3
              by_cases hjn3 : j3 < n
              · obtain ⟨dj3, hdj3⟩ : ∃ d, D[j3]? = some d := ⟨_, List.getElem?_eq_getElem (by rw [HLEN.out]; exact hjn3)⟩
                obtain ⟨y0, y1⟩ := HC8.out j3 dj3 hdj3
                have hji3 : (j3 : Int) < (n : Int) := by omega
                by_cases hq3 : dj3.p = d.p
                · have hqe3 := eqS_true hq3
                  have HQ3 : Hid (((D.drop (k + 1)).any fun x => decide (x.p = d.p)) = true) := any_drop_true D k j3 d.p dj3 (by omega) hdj3 hq3
                  clear hq3
                  go_wp2_with fail
                  go_roundw
                  case rel => exact ⟨k + 1, by omega, by go_num, by rw [HEE.out], ⟨dc, by have h1 := HCT.out; have h2 := HDR.out; rw [if_neg HP.out, if_pos HQ3.out] at h2; omega, rfl⟩, HR8.out, HF8.out⟩
                  case measure => simp [intOf]; omega
                · have hqe3 := eqS_false hq3
                  have HQ3 : Hid (dj3.p ≠ d.p) := hq3
                  clear hq3
                  go_wp2_with fail
                  go_round
                  case rel => exact ⟨rfl, j3 + 1, by omega, by omega, by go_num, fun j' d' h1 h2 h3 => by
                    rcases Nat.lt_succ_iff_lt_or_eq.1 h2 with h | h
                    · exact HNO3.out j' d' h1 h h3
                    · subst h; rw [hdj3] at h3; cases h3; exact HQ3.out⟩
                  case measure => simp [intOf]; omega
              · have hjn3' : ¬ (j3 : Int) < (n : Int) := by omega
                have hst3 : (st D).1 d.p = some d.s := st_found d.p HP.out D k d hd rfl (fun j' d' h1 h2 => HNO3.out j' d' h1 (by have := (List.getElem?_eq_some_iff.1 h2).1; rw [HLEN.out] at this; omega) h2)
                have hpl := prefixLookup_any w8 _ _ _ _ _ _ _ _ _ _ d.p (HSM.out d (List.mem_of_getElem? hd)) HR8.out
                rw [hst3] at hpl
                simp only [Option.getD_some, Option.isSome_some] at hpl
                have HQ3 : Hid (((D.drop (k + 1)).any fun x => decide (x.p = d.p)) = false) := any_drop_false D k d.p (fun j' d' h1 h2 => HNO3.out j' d' h1 (by have := (List.getElem?_eq_some_iff.1 h2).1; rw [HLEN.out] at this; omega) h2)
                clear hst3
                go_wp2_with fail
                refine hpl.mono ?_
                rintro e w10 ⟨rfl, hw10⟩
                subst hw10
                go_wp2_with fail
                go_roundw
                case rel => exact ⟨k + 1, by omega, by go_num, by rw [HEE.out], ⟨dc + 1, by have h1 := HCT.out; have h2 := HDR.out; rw [if_neg HP.out, HQ3.out] at h2; simp at h2; omega, by go_num⟩, HR8.out, HF8.out⟩
                case measure => simp [intOf]; omega
          | succ j =>
            have hjn : j < n := by omega
            obtain ⟨dj, hdj⟩ : ∃ d, D[j]? = some d := ⟨_, List.getElem?_eq_getElem (by rw [HLEN.out]; exact hjn)⟩
            obtain ⟨x0, x1⟩ := HC8.out j dj hdj
            have hji : (j : Int) < (n : Int) := by omega
            have e0 : (((j + 1 : Nat) : Int) - 1) = (j : Int) := by omega
            rw [e0]
            clear e0
            by_cases hq : dj.p = d.p
            · have hqe := eqS_true hq
              have hst : (st (D.take k)).1 d.p = some dj.s := by
                refine st_found d.p HP.out _ j dj ?_ hq (fun j' d' h1 h2 => ?_)
                · rw [List.getElem?_take, if_pos (by omega)]; exact hdj
                · have hlk : j' < k := by have := (List.getElem?_eq_some_iff.1 h2).1; simp at this; omega
                  rw [List.getElem?_take, if_pos hlk] at h2
                  exact HNO.out j' d' h1 hlk h2
              have hRm : R = dj.s := by rw [HRE.out, hst]; rfl
              have hBm : BB = true := by rw [HBE.out, hst]; rfl
              clear hst HRE HBE hq
              subst hBm hRm
              go_wp2_with fail
              go_loop [18, 19] (fun la x => la = .bool true ∧ ∃ j : Nat, k + 1 ≤ j ∧ j ≤ n ∧ x = .int .i64 j ∧ ∀ j' d', k < j' → j' < j → D[j']? = some d' → d'.p ≠ d.p) (fun _ x => n - (intOf x).toNat)
              case atStart => exact ⟨rfl, k + 1, Nat.le_refl _, by omega, by go_num, fun j' d' h1 h2 => by omega⟩
              case round =>
                obtain ⟨rfl, j3, hj1, hj2, rfl, hno3⟩ := hrel
                have HNO3 : Hid (∀ j' d', k < j' → j' < j3 → D[j']? = some d' → d'.p ≠ d.p) := hno3
                clear hno3
                by_cases hjn3 : j3 < n
                · obtain ⟨dj3, hdj3⟩ : ∃ d, D[j3]? = some d := ⟨_, List.getElem?_eq_getElem (by rw [HLEN.out]; exact hjn3)⟩
                  obtain ⟨y0, y1⟩ := HC8.out j3 dj3 hdj3
                  have hji3 : (j3 : Int) < (n : Int) := by omega
                  by_cases hq3 : dj3.p = d.p
                  · have hqe3 := eqS_true hq3
                    have HQ3 : Hid (((D.drop (k + 1)).any fun x => decide (x.p = d.p)) = true) := any_drop_true D k j3 d.p dj3 (by omega) hdj3 hq3
                    clear hq3
                    go_wp2_with fail
                    go_roundw
                    case rel => exact ⟨k + 1, by omega, by go_num, by rw [HEE.out], ⟨dc, by have h1 := HCT.out; have h2 := HDR.out; rw [if_neg HP.out, if_pos HQ3.out] at h2; omega, rfl⟩, HR8.out, HF8.out⟩
                    case measure => simp [intOf]; omega
                  · have hqe3 := eqS_false hq3
                    have HQ3 : Hid (dj3.p ≠ d.p) := hq3
                    clear hq3
                    go_wp2_with fail
                    go_round
                    case rel => exact ⟨rfl, j3 + 1, by omega, by omega, by go_num, fun j' d' h1 h2 h3 => by
                      rcases Nat.lt_succ_iff_lt_or_eq.1 h2 with h | h
                      · exact HNO3.out j' d' h1 h h3
                      · subst h; rw [hdj3] at h3; cases h3; exact HQ3.out⟩
                    case measure => simp [intOf]; omega
                · have hjn3' : ¬ (j3 : Int) < (n : Int) := by omega
                  have hst3 : (st D).1 d.p = some d.s := st_found d.p HP.out D k d hd rfl (fun j' d' h1 h2 => HNO3.out j' d' h1 (by have := (List.getElem?_eq_some_iff.1 h2).1; rw [HLEN.out] at this; omega) h2)
                  have hpl := prefixLookup_any w8 _ _ _ _ _ _ _ _ _ _ d.p (HSM.out d (List.mem_of_getElem? hd)) HR8.out
                  rw [hst3] at hpl
                  simp only [Option.getD_some, Option.isSome_some] at hpl
                  have HQ3 : Hid (((D.drop (k + 1)).any fun x => decide (x.p = d.p)) = false) := any_drop_false D k d.p (fun j' d' h1 h2 => HNO3.out j' d' h1 (by have := (List.getElem?_eq_some_iff.1 h2).1; rw [HLEN.out] at this; omega) h2)
                  clear hst3
                  go_wp2_with fail
                  refine hpl.mono ?_
                  rintro e w10 ⟨rfl, hw10⟩
                  subst hw10
                  go_wp2_with fail
                  go_roundw
                  case rel => exact ⟨k + 1, by omega, by go_num, by rw [HEE.out], ⟨dc + 1, by have h1 := HCT.out; have h2 := HDR.out; rw [if_neg HP.out, HQ3.out] at h2; simp at h2; omega, by go_num⟩, HR8.out, HF8.out⟩
                  case measure => simp [intOf]; omega
            · have hqe := eqS_false hq
              have HQ : Hid (dj.p ≠ d.p) := hq
              clear hq
              go_wp2_with fail
              go_round
              case rel => exact ⟨rfl, rfl, ⟨j, by omega, by go_num, fun j' d' h1 h2 h3 => by
                rcases Nat.eq_or_lt_of_le h1 with h | h
                · subst h; rw [hdj] at h3; cases h3; exact HQ.out
                · exact HNO.out j' d' h h2 h3⟩⟩
              case measure => simp [intOf] <;> omega
    · obtain rfl : k = n := by omega
      have hcc : dc = cl D := by
        have h1 := HCT.out
        rw [List.drop_of_length_le (by rw [HLEN.out]; omega)] at h1
        simpa [cl] using h1
      subst hcc
      have hpc := prefixCount_any wr _ _ _ _ _ _ _ _ _ _ hrd
      rw [st_count] at hpc
      have hee : (((cl D : Nat) : Int) != ((cl D : Nat) : Int)) = false := by simp
      clear hrd hfr
      go_wp2_with fail
      refine hpc.mono ?_
      rintro e w10 ⟨rfl, hw10⟩
      subst hw10
      go_wp2_with fail
      go_ret
      exact ⟨rfl, HFF.out⟩

end

end Go.Proofs.Qxb6601967a
