/-
  FnResolveMatchesCaseTable's own walk at an empty list of declarations.
-/
import Derived.Test.Qxb6601967aTopPos
namespace Go.Proofs.Qxb6601967a
set_option linter.unusedVariables false
set_option linter.unusedSimpArgs false
open Go.RowKit Go.Maps

set_option maxHeartbeats 4000000 in
set_option maxRecDepth 100000 in
theorem top_zero (s0 s2 : ByteArray) (attr : Bool) (p : Option Addr) (c : Nat) (w : World) (hs0 : s0.size ≤ 1048576) (hs2 : s2.size ≤ 1048576) :
    Calls Try.prog 3 #[.string s0, .slice p 0 c, .string s2, .bool attr] w fun e w' => e = .returned (.bool true) ∧ Below w.heap.size w w' := by
  have h : In4 w p 0 [] := ⟨rfl, fun h => absurd h (Nat.lt_irrefl 0), fun d hd => by simp at hd⟩
  have hzz := zzBytes_any s0 s2 attr p 0 c [] w h
  have hsd := zzSizeDecls_any p 0 c [] w h (by omega)
  have hnr := newReader_any s0
  have t2 : decide ((1048576 : Int) < (s0.size : Int)) = false := by simp; omega
  have t3 : decide ((1048576 : Int) < (s2.size : Int)) = false := by simp; omega
  clear h
  go_enter Try.func3, Try.ntmps3
  go_wp2_with fail
  refine hzz.mono ?_
  rintro e w0 ⟨⟨bb, rfl⟩, hw0⟩
  subst hw0
  clear hzz
  cases bb with
  | false =>
    go_wp2_with fail
    go_ret
    exact ⟨rfl, Below.refl _ _⟩
  | true =>
  go_wp2_with fail
  refine hsd.mono ?_
  rintro e w1 ⟨m, rfl, q, rfl⟩
  clear hsd
  cases hm : decide (1048576 < wrap64 ((s0.size : Int) + (s2.size : Int) + m)) with
  | true =>
    go_wp2_with fail
    go_ret
    exact ⟨rfl, ⟨rfl, rfl, rfl, Nat.le_refl _, fun _ _ => rfl⟩⟩
  | false =>
  go_wp2_with fail
  refine (hnr _).mono ?_
  rintro e w2 ⟨rfl, hrb, hfr⟩
  clear hnr
  have hrd := Rd.start hrb (Nat.le_refl _)
  have hres := zz_all w2 w0.heap.size w0.heap.size (.slice none 0 0) s0 (.slice none 0 0) [] s2 attr hrd hs2 (by simp) (fun d hd => by simp at hd)
  have HF0 : Hid (Fr w0.heap.size w0 w2) := ((Fr.refl _ w0).drewN q).trans hfr
  clear hrb hfr hrd
  go_wp2_with fail
  refine wp_loop_rounds 1 ?_
  rw [rounds_succ]
  go_wp2_with fail
  refine hres.mono ?_
  rintro e w4 ⟨rfl, ⟨mb, hrd4⟩, hfr4⟩
  clear hres
  have HR4 : Hid (∃ dv mb, Rd w4 w0.heap.size w0.heap.size (.slice none 0 0) s0 dv (dsOf s2 attr ([] : List Dcl)) (mpOf s2 attr ([] : List Dcl) mb)) := ⟨_, _, hrd4⟩
  have HF4 : Hid (Fr w0.heap.size w0 w4) := HF0.out.trans hfr4
  clear hrd4 hfr4
  go_wp2_with fail
  refine (zzCut_all s2 _ hs2).mono ?_
  rintro e w5 ⟨X, Y, F, hXY, rfl, q5, rfl⟩
  have HXY : Hid (CutIs s2 X Y F) := hXY
  clear hXY
  have ad : ∀ (W : World) (j : Nat) (o : Obj), (W.drewN j).alloc o = (W.alloc o).drewN j := fun _ _ _ => rfl
  have sd : ∀ (W : World) (j : Nat) (x : Addr) (v : Value), (W.drewN j).setCell x v = (W.setCell x v).drewN j := fun _ _ _ _ => rfl
  go_upto_block 2 with fail
  go_cut [16, 18] from 106 to 175 (fun lk wok wr => lk = .bool (need s2 attr) ∧ wok = .bool (ansOk s2 attr ([] : List Dcl)) ∧ Mid w0 w4.heap.size s0 s2 attr ([] : List Dcl) wr)
  case first =>
    as_aux_lemma =>
    rename_i J K' hJ hM
    have hM' : ∀ a w, Mt J a w → K' a w := hM
    go_light
    rcases HXY.out with ⟨rfl, hc, hX, hY⟩ | ⟨rfl, hc, hX, hY⟩
    · cases hnd : need s2 attr with
      | false =>
        have hok : ansOk s2 attr ([] : List Dcl) = true := by unfold ansOk; rw [hnd]; rfl
        have HND : Hid (need s2 attr = false) := hnd
        have HOK : Hid (ansOk s2 attr ([] : List Dcl) = true) := hok
        by_cases ha : attr = true ∧ pre s2 = sXmlns
        · have HA : Hid (nsXmlns = ansA s0 s2 attr ([] : List Dcl)) := by show _ = _; unfold ansA nameOf; rw [hnd, if_neg (by decide), if_pos hc, if_pos ha]
          have HB : Hid (Y = ansB s0 s2 attr) := by show _ = _; unfold ansB nameOf; rw [hnd, if_neg (by decide), if_pos hc, if_pos ha, hY]
          have hb : (X.toList == [120, 109, 108, 110, 115]) = true := eq_xmlns (by rw [hX]; exact ha.2)
          obtain ⟨hattr, _⟩ := ha
          subst hattr
          clear hnd hok hX hY hc
          go_wp2_with fail
          show Met _ _ _
          go_meet
          case rel => exact ⟨by rw [HND.out], by rw [HOK.out], Mid.mk' q5 HA.out HB.out HR4.out HF4.out⟩
        · have hx : pre s2 = sXml := by
            have hnd' := hnd
            unfold need at hnd'
            by_cases e : pre s2 = sXml
            · exact e
            · exfalso; apply ha; simpa [hc, e] using hnd'
          have HA : Hid (nsXml = ansA s0 s2 attr ([] : List Dcl)) := by show _ = _; unfold ansA nameOf; rw [hnd, if_neg (by decide), if_pos hc, if_neg ha]
          have HB : Hid (Y = ansB s0 s2 attr) := by show _ = _; unfold ansB nameOf; rw [hnd, if_neg (by decide), if_pos hc, if_neg ha, hY]
          have hb : (X.toList == [120, 109, 108, 110, 115]) = false := ne_xmlns (by rw [hX, hx]; decide)
          have hb2 : (X.toList == [120, 109, 108]) = true := eq_xml (by rw [hX]; exact hx)
          clear hnd hok hX hY hc ha hx
          cases attr with
          | true =>
            go_wp2_with fail
            show Met _ _ _
            go_meet
            case rel => exact ⟨by rw [HND.out], by rw [HOK.out], Mid.mk' q5 HA.out HB.out HR4.out HF4.out⟩
          | false =>
            go_wp2_with fail
            show Met _ _ _
            go_meet
            case rel => exact ⟨by rw [HND.out], by rw [HOK.out], Mid.mk' q5 HA.out HB.out HR4.out HF4.out⟩
      | true =>
        have hnd' := hnd
        unfold need at hnd'
        simp only [Bool.and_eq_true, decide_eq_true_eq, Bool.not_eq_true', Bool.and_eq_false_iff, decide_eq_false_iff_not] at hnd'
        obtain ⟨_, hx1, hx2⟩ := hnd'
        have hb2 : (X.toList == [120, 109, 108]) = false := ne_xml (by rw [hX]; exact hx2)
        have hb1 : attr = false ∨ (X.toList == [120, 109, 108, 110, 115]) = false := by
          rcases hx1 with h | h
          · exact Or.inl h
          · exact Or.inr (ne_xmlns (by rw [hX]; exact h))
        have HND : Hid (need s2 attr = true) := hnd
        have HB : Hid (Y = ansB s0 s2 attr) := by show _ = _; unfold ansB; rw [hnd, if_pos rfl, hY]
        have HX : Hid (X = pre s2) := hX
        clear hx1 hx2 hnd hX hY hc
        cases hb3 : (X.toList == [120, 109, 108, 110, 115]) with
        | true =>
          obtain rfl : attr = false := by
            rcases hb1 with h | h
            · exact h
            · rw [hb3] at h; cases h
          clear hb1
          go_wp2_with fail
          refine wp_loop_rounds 1 ?_
          rw [rounds_succ]
          have HOK : Hid (ansOk s2 false ([] : List Dcl) = false) := by show _ = _; unfold ansOk; rw [HND.out, if_pos rfl]; rfl
          have HA : Hid (mt = ansA s0 s2 false ([] : List Dcl)) := by show _ = _; unfold ansA; rw [HND.out, if_pos rfl]; rfl
          go_wp2_with fail
          show Met _ _ _
          go_meet
          case rel => exact ⟨by rw [HND.out], by rw [HOK.out], Mid.mk' q5 HA.out HB.out HR4.out HF4.out⟩
        | false =>
          clear hb1
          cases attr with
          | true =>
            go_wp2_with fail
            refine wp_loop_rounds 1 ?_
            rw [rounds_succ]
            have HOK : Hid (ansOk s2 true ([] : List Dcl) = false) := by show _ = _; unfold ansOk; rw [HND.out, if_pos rfl]; rfl
            have HA : Hid (mt = ansA s0 s2 true ([] : List Dcl)) := by show _ = _; unfold ansA; rw [HND.out, if_pos rfl]; rfl
            go_wp2_with fail
            show Met _ _ _
            go_meet
            case rel => exact ⟨by rw [HND.out], by rw [HOK.out], Mid.mk' q5 HA.out HB.out HR4.out HF4.out⟩
          | false =>
            go_wp2_with fail
            refine wp_loop_rounds 1 ?_
            rw [rounds_succ]
            have HOK : Hid (ansOk s2 false ([] : List Dcl) = false) := by show _ = _; unfold ansOk; rw [HND.out, if_pos rfl]; rfl
            have HA : Hid (mt = ansA s0 s2 false ([] : List Dcl)) := by show _ = _; unfold ansA; rw [HND.out, if_pos rfl]; rfl
            go_wp2_with fail
            show Met _ _ _
            go_meet
            case rel => exact ⟨by rw [HND.out], by rw [HOK.out], Mid.mk' q5 HA.out HB.out HR4.out HF4.out⟩
    · have hn : ¬ ci s2 < s2.size := by omega
      have hnd : need s2 attr = false := by unfold need; simp [hn]
      have hok : ansOk s2 attr ([] : List Dcl) = true := by unfold ansOk; rw [hnd]; rfl
      have HND : Hid (need s2 attr = false) := hnd
      have HOK : Hid (ansOk s2 attr ([] : List Dcl) = true) := hok
      cases attr with
      | true =>
        by_cases hx : s2 = sXmlns
        · have HA : Hid (nsXmlns = ansA s0 s2 true ([] : List Dcl)) := by show _ = _; unfold ansA nameOf; rw [hnd, if_neg (by decide), if_neg hn, if_pos rfl, if_pos hx]
          have HB : Hid (s2 = ansB s0 s2 true) := by show _ = _; unfold ansB nameOf; rw [hnd, if_neg (by decide), if_neg hn, if_pos rfl, if_pos hx]
          have hb : (s2.toList == [120, 109, 108, 110, 115]) = true := eq_xmlns hx
          clear hnd hok hX hY hc hn hx
          go_wp2_with fail
          show Met _ _ _
          go_meet
          case rel => exact ⟨by rw [HND.out], by rw [HOK.out], Mid.mk' q5 HA.out HB.out HR4.out HF4.out⟩
        · have HA : Hid (mt = ansA s0 s2 true ([] : List Dcl)) := by show _ = _; unfold ansA nameOf; rw [hnd, if_neg (by decide), if_neg hn, if_pos rfl, if_neg hx]
          have HB : Hid (s2 = ansB s0 s2 true) := by show _ = _; unfold ansB nameOf; rw [hnd, if_neg (by decide), if_neg hn, if_pos rfl, if_neg hx]
          have hb : (s2.toList == [120, 109, 108, 110, 115]) = false := ne_xmlns hx
          clear hnd hok hX hY hc hn hx
          go_wp2_with fail
          show Met _ _ _
          go_meet
          case rel => exact ⟨by rw [HND.out], by rw [HOK.out], Mid.mk' q5 HA.out HB.out HR4.out HF4.out⟩
      | false =>
        have HA : Hid (s0 = ansA s0 s2 false ([] : List Dcl)) := by show _ = _; unfold ansA nameOf; rw [hnd, if_neg (by decide), if_neg hn, if_neg (by decide)]
        have HB : Hid (s2 = ansB s0 s2 false) := by show _ = _; unfold ansB nameOf; rw [hnd, if_neg (by decide), if_neg hn, if_neg (by decide)]
        clear hnd hok hX hY hc hn
        go_wp2_with fail
        show Met _ _ _
        go_meet
        case rel => exact ⟨by rw [HND.out], by rw [HOK.out], Mid.mk' q5 HA.out HB.out HR4.out HF4.out⟩
  case rest =>
    as_aux_lemma =>
    obtain ⟨hlk, rfl, hmid⟩ := hcut
    obtain ⟨m1, m2, ⟨dv, mb, hrd⟩, hfr⟩ := hmid
    have g0 := cell_of_row wc w4.heap.size 0 _ 31 _ m1
    have g1 := cell_of_row wc w4.heap.size 1 _ 31 _ m1
    have g2 := cell_of_row wc (w4.heap.size + 1) 0 _ 31 _ m2
    have g3 := cell_of_row wc (w4.heap.size + 1) 1 _ 31 _ m2
    have hds0 : dsOf s2 attr ([] : List Dcl) = [] := by unfold dsOf; split <;> rfl
    rw [hds0] at hrd
    have hds := defaultSpace_any wc _ _ _ _ _ _ _ hrd
    have hdc := declCount_any wc _ _ _ _ _ _ _ hrd
    simp only [List.length_nil] at hdc
    have hpn := prefixesNil_any wc _ _ _ _ _ _ _ hrd
    have HFR : Hid (Fr w0.heap.size w0 wc) := hfr
    cases hL : need s2 attr with
    | false =>
      have hmp : mpOf s2 attr ([] : List Dcl) mb = none := by unfold mpOf; rw [hL]; rfl
      rw [hmp] at hpn
      rw [hL] at hlk
      subst hlk
      clear hrd hfr m1 m2 HR4 HF4 hL hds0 hmp
      generalize ansOk s2 attr ([] : List Dcl) = okk at *
      go_step
      go_light
      go_wp2_with fail
      refine hds.mono ?_
      rintro e w6 ⟨rfl, hw6⟩
      subst hw6
      clear hds
      go_wp2_with fail
      refine hdc.mono ?_
      rintro e w7 ⟨rfl, hw7⟩
      subst hw7
      clear hdc g0 g1 g2 g3
      go_wp2_with fail
      refine wp_loop_rounds 1 ?_
      rw [rounds_succ]
      go_wp2_with fail
      refine hpn.mono ?_
      rintro e w9 ⟨rfl, hw9⟩
      subst hw9
      go_wp2_with fail
      go_ret
      exact ⟨rfl, HFR.out.below⟩
    | true =>
      have hmp : mpOf s2 attr ([] : List Dcl) mb = some (mb, 0, (st []).1, 0) := by unfold mpOf; rw [hL]; rfl
      rw [hmp] at hpn hrd
      have hpc := prefixCount_any wc _ _ _ _ _ _ _ _ _ _ hrd
      rw [hL] at hlk
      subst hlk
      clear hrd hfr m1 m2 HR4 HF4 hL hds0 hmp
      generalize ansOk s2 attr ([] : List Dcl) = okk at *
      go_step
      go_light
      go_wp2_with fail
      refine hds.mono ?_
      rintro e w6 ⟨rfl, hw6⟩
      subst hw6
      clear hds
      go_wp2_with fail
      refine hdc.mono ?_
      rintro e w7 ⟨rfl, hw7⟩
      subst hw7
      clear hdc g0 g1 g2 g3
      go_wp2_with fail
      refine wp_loop_rounds 1 ?_
      rw [rounds_succ]
      go_wp2_with fail
      refine hpn.mono ?_
      rintro e w9 ⟨rfl, hw9⟩
      subst hw9
      clear hpn
      go_wp2_with fail
      refine wp_loop_rounds 1 ?_
      rw [rounds_succ]
      go_wp2_with fail
      refine hpc.mono ?_
      rintro e w10 ⟨rfl, hw10⟩
      subst hw10
      go_wp2_with fail
      go_ret
      exact ⟨rfl, HFR.out.below⟩

set_option maxHeartbeats 1000000 in
set_option maxRecDepth 100000 in
/-- Beyond a bound of the law's own: true at once. -/
theorem top_big (s0 s2 : ByteArray) (attr : Bool) (p : Option Addr) (n c : Nat) (ds : List Dcl) (w : World) (h : In4 w p n ds) (hbig : 4096 < n ∨ 1048576 < s0.size ∨ 1048576 < s2.size) :
    Calls Try.prog 3 #[.string s0, .slice p n c, .string s2, .bool attr] w fun e w' => e = .returned (.bool true) ∧ Below w.heap.size w w' := by
  have hzz := zzBytes_any s0 s2 attr p n c ds w h
  clear h
  by_cases h1 : 4096 < n
  · have t1 : decide ((4096 : Int) < (n : Int)) = true := by simp; omega
    go_enter Try.func3, Try.ntmps3
    go_wp2_with fail
    refine hzz.mono ?_
    rintro e w0 ⟨⟨bb, rfl⟩, hw0⟩
    subst hw0
    cases bb with
    | false =>
      go_wp2_with fail
      go_ret
      exact ⟨rfl, Below.refl _ _⟩
    | true =>
      go_wp2_with fail
      go_ret
      exact ⟨rfl, Below.refl _ _⟩
  · have t1 : decide ((4096 : Int) < (n : Int)) = false := by simp; omega
    by_cases h2 : 1048576 < s0.size
    · have t2 : decide ((1048576 : Int) < (s0.size : Int)) = true := by simp; omega
      go_enter Try.func3, Try.ntmps3
      go_wp2_with fail
      refine hzz.mono ?_
      rintro e w0 ⟨⟨bb, rfl⟩, hw0⟩
      subst hw0
      cases bb with
      | false =>
        go_wp2_with fail
        go_ret
        exact ⟨rfl, Below.refl _ _⟩
      | true =>
        go_wp2_with fail
        go_ret
        exact ⟨rfl, Below.refl _ _⟩
    · have t2 : decide ((1048576 : Int) < (s0.size : Int)) = false := by simp; omega
      have t3 : decide ((1048576 : Int) < (s2.size : Int)) = true := by simp; omega
      go_enter Try.func3, Try.ntmps3
      go_wp2_with fail
      refine hzz.mono ?_
      rintro e w0 ⟨⟨bb, rfl⟩, hw0⟩
      subst hw0
      cases bb with
      | false =>
        go_wp2_with fail
        go_ret
        exact ⟨rfl, Below.refl _ _⟩
      | true =>
        go_wp2_with fail
        go_ret
        exact ⟨rfl, Below.refl _ _⟩

/-- The law, every input. -/
theorem top_all (s0 s2 : ByteArray) (attr : Bool) (p : Option Addr) (n c : Nat) (ds : List Dcl) (w : World) (h : In4 w p n ds) :
    Calls Try.prog 3 #[.string s0, .slice p n c, .string s2, .bool attr] w fun e w' => e = .returned (.bool true) ∧ Below w.heap.size w w' := by
  by_cases hbig : 4096 < n ∨ 1048576 < s0.size ∨ 1048576 < s2.size
  · exact top_big s0 s2 attr p n c ds w h hbig
  · rcases Nat.eq_zero_or_pos n with h0 | h0
    · subst h0
      exact top_zero s0 s2 attr p c w (by omega) (by omega)
    · exact top_pos s0 s2 attr p n c ds w h (by omega) (by omega) (by omega) h0

end Go.Proofs.Qxb6601967a
