/-
  FnResolveMatchesCaseTable's own walk: from the start to the end of the switch.
-/
import Derived.Test.Qxb6601967aSizes
import Derived.Test.Qxb6601967aPlain2
import Derived.Deep.RegionHeld3
import Derived.Deep.DeepCutAuto
import Derived.Deep.CutBlock
import Derived.Deep.Light
namespace Go.Proofs.Qxb6601967a
set_option linter.unusedVariables false
set_option linter.unusedSimpArgs false
open Go.RowKit Go.Maps

theorem Rd.start {w' : World} {r : Nat} {s : ByteArray} {base : Nat} (h : RdBlk w' r (.slice none 0 0) s (.slice none 0 0) none) (hb : base ≤ r) : Rd w' base r (.slice none 0 0) s (.slice none 0 0) [] none :=
  ⟨h, World.ownsRow_nil _ _ _ _, hb, fun b n f sz e => by cases e⟩

/-! ### what resolve answers, in one word -/
def ansA (s0 s2 : ByteArray) (attr : Bool) (ds : List Dcl) : ByteArray := if need s2 attr = true then ((st ds).1 (pre s2)).getD mt else (nameOf s0 s2 attr).1
def ansB (s0 s2 : ByteArray) (attr : Bool) : ByteArray := if need s2 attr = true then loc s2 else (nameOf s0 s2 attr).2
def ansOk (s2 : ByteArray) (attr : Bool) (ds : List Dcl) : Bool := if need s2 attr = true then ((st ds).1 (pre s2)).isSome else true
def dsOf (s2 : ByteArray) (attr : Bool) (ds : List Dcl) : List Dcl := if need s2 attr = true then recs ds ds.length else ds
def mpOf (s2 : ByteArray) (attr : Bool) (ds : List Dcl) (mb : Nat) : Option (Nat × Nat × (ByteArray → Option ByteArray) × Nat) := if need s2 attr = true then some (mb, ds.length, (st ds).1, (st ds).2) else none

theorem zz_all (w : World) (base r : Nat) (ov : Value) (s0 : ByteArray) (dv : Value) (ds : List Dcl) (s2 : ByteArray) (attr : Bool) (h : Rd w base r ov s0 dv ds none) (hsz : s2.size ≤ 1048576) (hn : ds.length ≤ 1048576) (hs : ∀ d ∈ ds, d.p.size ≤ maxLen ∧ d.s.size ≤ maxLen) :
    Calls Try.prog 11 #[.pointer (some ⟨r, 0, none⟩), .string s2, .bool attr] w fun e w' =>
      e = .returned (.tuple #[.agg #[.string (ansA s0 s2 attr ds), .string (ansB s0 s2 attr)], .bool (ansOk s2 attr ds)]) ∧ (∃ mb, Rd w' base r ov s0 dv (dsOf s2 attr ds) (mpOf s2 attr ds mb)) ∧ Fr base w w' := by
  unfold ansA ansB ansOk dsOf mpOf
  cases hnd : need s2 attr with
  | true => exact (zz_build w base r ov s0 dv ds s2 attr h hsz hnd hn hs).mono fun e w' ⟨he, hr, hf⟩ => ⟨he, ⟨_, hr⟩, hf⟩
  | false =>
    refine (zz_fixed w base r ov s0 dv ds none s2 attr h hsz hnd).mono fun e w' ⟨he, hf⟩ => ⟨he, ⟨0, h.below hf.below (Nat.le_refl _)⟩, ?_⟩
    exact ⟨hf.below.mono (Nat.le_trans h.hb (Nat.le_of_lt h.blk.lt)), hf.tag⟩

/-- The law's own cut, hit or miss. -/
def CutIs (s X Y : ByteArray) (F : Bool) : Prop := (F = true ∧ ci s < s.size ∧ X = pre s ∧ Y = loc s) ∨ (F = false ∧ ci s = s.size ∧ X = s ∧ Y = mt)
theorem zzCut_all (s : ByteArray) (w : World) (hsz : s.size ≤ 1048576) :
    Calls Try.prog 12 #[.string s] w fun e w' => ∃ X Y F, CutIs s X Y F ∧ e = .returned (.tuple #[.string X, .string Y, .bool F]) ∧ ∃ q, w' = w.drewN q := by
  by_cases hc : ci s < s.size
  · exact (zzCut_hit s w _ rfl hc hsz).mono fun e w' ⟨he, hw⟩ => ⟨pre s, loc s, true, Or.inl ⟨rfl, hc, rfl, rfl⟩, he, hw⟩
  · have h1 : ci s = s.size := by have := ci_le s; omega
    exact (zzCut_miss s w h1 hsz).mono fun e w' ⟨he, hw⟩ => ⟨s, mt, false, Or.inr ⟨rfl, h1, rfl, rfl⟩, he, hw⟩

theorem two_blocks (w : World) (A B : Obj) (q : Nat) : (((w.alloc A).alloc B).drewN q).heap[w.heap.size]? = some A ∧ (((w.alloc A).alloc B).drewN q).heap[w.heap.size + 1]? = some B := by
  refine ⟨?_, ?_⟩
  · show ((w.alloc A).alloc B).heap[w.heap.size]? = some A
    rw [Below.heap_alloc (w.alloc A) B w.heap.size (by simp)]
    exact heap_alloc_new w A
  · show ((w.alloc A).alloc B).heap[w.heap.size + 1]? = some B
    have := heap_alloc_new (w.alloc A) B
    simpa using this

/-- The meeting of ways, under a name of our own. -/
def Mt (J : Act → World → Prop) : Act → World → Prop := Met J

/-- What holds behind the switch. -/
def Mid (w0 : World) (gb : Nat) (s0 s2 : ByteArray) (attr : Bool) (ds : List Dcl) (wr : World) : Prop :=
  wr.heap[gb]? = some (.cells #[.string (ansA s0 s2 attr ds), .string (ansB s0 s2 attr)] 31 (0, 0)) ∧ wr.heap[gb + 1]? = some (.cells #[.string (ansA s0 s2 attr ds), .string (ansB s0 s2 attr)] 31 (0, 0)) ∧
  (∃ dv mb, Rd wr w0.heap.size w0.heap.size (.slice none 0 0) s0 dv (dsOf s2 attr ds) (mpOf s2 attr ds mb)) ∧ Fr w0.heap.size w0 wr

theorem Mid.mk' {w0 w4 : World} {s0 s2 : ByteArray} {attr : Bool} {ds : List Dcl} {x y : ByteArray} (q : Nat) (hx : x = ansA s0 s2 attr ds) (hy : y = ansB s0 s2 attr)
    (hrd : ∃ dv mb, Rd w4 w0.heap.size w0.heap.size (.slice none 0 0) s0 dv (dsOf s2 attr ds) (mpOf s2 attr ds mb)) (hfr : Fr w0.heap.size w0 w4) :
    Mid w0 w4.heap.size s0 s2 attr ds (((w4.alloc (.cells #[.string (ansA s0 s2 attr ds), .string (ansB s0 s2 attr)] 31)).alloc (.cells #[.string x, .string y] 31)).drewN q) := by
  subst hx hy
  obtain ⟨h1, h2⟩ := two_blocks w4 (.cells #[.string (ansA s0 s2 attr ds), .string (ansB s0 s2 attr)] 31) (.cells #[.string (ansA s0 s2 attr ds), .string (ansB s0 s2 attr)] 31) q
  obtain ⟨dv, mb, hr⟩ := hrd
  have hs : w0.heap.size ≤ w4.heap.size := hfr.below.size
  exact ⟨h1, h2, ⟨dv, mb, ((hr.alloc _).alloc _).drewN q⟩, ((hfr.alloc hs _).alloc (by simpa using Nat.le_succ_of_le hs) _).drewN q⟩

set_option maxHeartbeats 4000000 in
set_option maxRecDepth 100000 in
theorem top_pos (s0 s2 : ByteArray) (attr : Bool) (p : Option Addr) (n c : Nat) (ds : List Dcl) (w : World) (h : In4 w p n ds) (hn : n ≤ 4096) (hs0 : s0.size ≤ 1048576) (hs2 : s2.size ≤ 1048576) (hpos : 0 < n) :
    Calls Try.prog 3 #[.string s0, .slice p n c, .string s2, .bool attr] w fun e w' => e = .returned (.bool true) ∧ Below w.heap.size w w' := by
  have hzz := zzBytes_any s0 s2 attr p n c ds w h
  have hsd := zzSizeDecls_any p n c ds w h (by omega)
  have hnr := newReader_any s0
  obtain ⟨b, o, rfl, hblt, hc⟩ := h.at' hpos
  have HIN : Hid (In4 w (some ⟨b, o, none⟩) n ds) := h
  have HC : Hid (∀ i d, ds[i]? = some d → w.cell? ⟨b, o + i * 4, none⟩ = some (.string d.p) ∧ w.cell? ⟨b, o + i * 4 + 1, none⟩ = some (.string d.s) ∧ w.cell? ⟨b, o + i * 4 + 2, none⟩ = some (.string d.r) ∧ w.cell? ⟨b, o + i * 4 + 3, none⟩ = some (.bool d.b)) := hc
  have t1 : decide ((4096 : Int) < (n : Int)) = false := by simp; omega
  have t2 : decide ((1048576 : Int) < (s0.size : Int)) = false := by simp; omega
  have t3 : decide ((1048576 : Int) < (s2.size : Int)) = false := by simp; omega
  clear h hc
  go_enter Try.func3, Try.ntmps3
  go_wp2_with fail
  refine hzz.mono ?_
  rintro e w0 ⟨⟨bb, rfl⟩, hw0⟩
  subst hw0
  clear hzz
  cases bb with
  | false =>
    go_wp2_with fail
    go_ret
    exact ⟨rfl, Below.refl _ _⟩
  | true =>
  go_wp2_with fail
  refine hsd.mono ?_
  rintro e w1 ⟨m, rfl, q, rfl⟩
  clear hsd
  cases hm : decide (1048576 < wrap64 ((s0.size : Int) + (s2.size : Int) + m)) with
  | true =>
    go_wp2_with fail
    go_ret
    exact ⟨rfl, ⟨rfl, rfl, rfl, Nat.le_refl _, fun _ _ => rfl⟩⟩
  | false =>
  go_wp2_with fail
  refine (hnr _).mono ?_
  rintro e w2 ⟨rfl, hrb, hfr⟩
  clear hnr
  have HR0 : Hid (Rd w2 w0.heap.size w0.heap.size (.slice none 0 0) s0 (.slice none 0 0) [] none) := Rd.start hrb (Nat.le_refl _)
  have HF0 : Hid (Fr w0.heap.size w0 w2) := ((Fr.refl _ w0).drewN q).trans hfr
  clear hrb hfr
  go_upto_block 0 with fail
  go_cut [10] from 65 to 92 (fun x wr => (∃ dv, Rd wr w0.heap.size w0.heap.size (.slice none 0 0) s0 dv ds none) ∧ Fr w0.heap.size w0 wr)
  case first =>
    as_aux_lemma =>
    rename_i J K' hJ hM
    have hM' : ∀ a w, Mt J a w → K' a w := hM
    go_light
    go_wp2_with fail
    go_loopw [10] (fun x wr => ∃ k : Nat, k ≤ n ∧ x = .int .i64 k ∧ (∃ dv, Rd wr w0.heap.size w0.heap.size (.slice none 0 0) s0 dv (ds.take k) none) ∧ Fr w0.heap.size w0 wr) (fun x _ => n - (intOf x).toNat)
    case atStart => exact ⟨0, Nat.zero_le _, rfl, ⟨_, HR0.out⟩, HF0.out⟩
    case round =>
      obtain ⟨k, hk, rfl, ⟨dv, hrd⟩, hfr⟩ := hrel
      by_cases hlt : k < n
      · have hlen := HIN.out.len
        obtain ⟨d, hd⟩ : ∃ d, ds[k]? = some d := ⟨_, List.getElem?_eq_getElem (by omega)⟩
        have hin := HIN.out.below (hfr.below) (Nat.le_refl _)
        obtain ⟨b', o', hpe, _, hc⟩ := hin.at' (by omega)
        cases hpe
        obtain ⟨c0, c1, c2, c3⟩ := hc k d hd
        have hki : (k : Int) < (n : Int) := by omega
        have hpd : Calls Try.prog 10 #[.pointer (some ⟨w0.heap.size, 0, none⟩), .string d.p, .string d.s, .string d.r, .bool d.b] wr.drew _ := pushDecl_any wr.drew w0.heap.size w0.heap.size (.slice none 0 0) s0 dv (ds.take k) none d.p d.s d.r d.b (hrd.drewN 1) (by simp; omega)
        have HFR : Hid (Fr w0.heap.size w0 wr) := hfr
        have HTK : Hid (ds.take (k + 1) = ds.take k ++ [d]) := take_step ds k d hd
        clear hin hc hrd hfr hlen
        go_wp2_with fail
        go_region_held3 (fun w' => w'.cell? ⟨b, o + k * 4, none⟩ = some (.string d.p) ∧ w'.cell? ⟨b, o + k * 4 + 1, none⟩ = some (.string d.s) ∧ w'.cell? ⟨b, o + k * 4 + 2, none⟩ = some (.string d.r) ∧ w'.cell? ⟨b, o + k * 4 + 3, none⟩ = some (.bool d.b)) (go_keep) ((go_at_call 10; refine hpd.mono ?_; rintro e w3 ⟨rfl, hrd3, hfr3⟩; have g0 := (hfr3.below.cell (p := ⟨b, o + k * 4, none⟩) hblt).trans c0; have g1 := (hfr3.below.cell (p := ⟨b, o + k * 4 + 1, none⟩) hblt).trans c1; have g2 := (hfr3.below.cell (p := ⟨b, o + k * 4 + 2, none⟩) hblt).trans c2; have g3 := (hfr3.below.cell (p := ⟨b, o + k * 4 + 3, none⟩) hblt).trans c3))
        rename_i w3 hrd3 hfr3 g0 g1 g2 g3
        have HR3 : Hid (∃ dv, Rd w3 w0.heap.size w0.heap.size (.slice none 0 0) s0 dv (ds.take (k + 1)) none) := by
          rw [HTK.out]; exact hrd3
        have HF3 : Hid (Fr w0.heap.size w0 w3) := (HFR.out.drewN 1).trans hfr3
        clear hrd3 hfr3 hpd g0 g1 g2 g3 c0 c1 c2 c3 HFR HTK
        go_wp2_with fail
        go_roundw
        case rel => exact ⟨k + 1, by omega, by go_num, HR3.out, HF3.out⟩
        case measure => simp [intOf]; omega
      · obtain rfl : k = n := by omega
        rw [List.take_of_length_le (Nat.le_of_eq HIN.out.len)] at hrd
        have HRD : Hid (Rd wr w0.heap.size w0.heap.size (.slice none 0 0) s0 dv ds none) := hrd
        have HFR : Hid (Fr w0.heap.size w0 wr) := hfr
        clear hrd hfr
        go_wp2_with fail
        show Met _ _ _
        go_meet
        case rel => exact ⟨⟨dv, HRD.out⟩, HFR.out⟩
  case rest =>
    as_aux_lemma =>
    obtain ⟨⟨dv, hrd⟩, hfr⟩ := hcut
    go_step
    go_light
    have hres := zz_all wc w0.heap.size w0.heap.size (.slice none 0 0) s0 dv ds s2 attr hrd hs2 (by rw [HIN.out.len]; omega) (fun d hd => ⟨(HIN.out.small d hd).1, (HIN.out.small d hd).2.1⟩)
    have HFR : Hid (Fr w0.heap.size w0 wc) := hfr
    clear hrd hfr HR0 HF0
    go_wp2_with fail
    refine hres.mono ?_
    rintro e w4 ⟨rfl, ⟨mb, hrd4⟩, hfr4⟩
    clear hres
    have HR4 : Hid (∃ dv mb, Rd w4 w0.heap.size w0.heap.size (.slice none 0 0) s0 dv (dsOf s2 attr ds) (mpOf s2 attr ds mb)) := ⟨_, _, hrd4⟩
    have HF4 : Hid (Fr w0.heap.size w0 w4) := HFR.out.trans hfr4
    clear hrd4 hfr4 HFR
    go_wp2_with fail
    refine (zzCut_all s2 _ hs2).mono ?_
    rintro e w5 ⟨X, Y, F, hXY, rfl, q5, rfl⟩
    have HXY : Hid (CutIs s2 X Y F) := hXY
    clear hXY
    have ad : ∀ (W : World) (j : Nat) (o : Obj), (W.drewN j).alloc o = (W.alloc o).drewN j := fun _ _ _ => rfl
    have sd : ∀ (W : World) (j : Nat) (x : Addr) (v : Value), (W.drewN j).setCell x v = (W.setCell x v).drewN j := fun _ _ _ _ => rfl
    go_upto_block 2 with fail
    go_cut [16, 18] from 106 to 175 (fun lk wok wr => lk = .bool (need s2 attr) ∧ wok = .bool (ansOk s2 attr ds) ∧ Mid w0 w4.heap.size s0 s2 attr ds wr)
    case first =>
      as_aux_lemma =>
      rename_i J K' hJ hM
      have hM' : ∀ a w, Mt J a w → K' a w := hM
      go_light
      rcases HXY.out with ⟨rfl, hc, hX, hY⟩ | ⟨rfl, hc, hX, hY⟩
      · cases hnd : need s2 attr with
        | false =>
          have hok : ansOk s2 attr ds = true := by unfold ansOk; rw [hnd]; rfl
          have HND : Hid (need s2 attr = false) := hnd
          have HOK : Hid (ansOk s2 attr ds = true) := hok
          by_cases ha : attr = true ∧ pre s2 = sXmlns
          · have HA : Hid (nsXmlns = ansA s0 s2 attr ds) := by show _ = _; unfold ansA nameOf; rw [hnd, if_neg (by decide), if_pos hc, if_pos ha]
            have HB : Hid (Y = ansB s0 s2 attr) := by show _ = _; unfold ansB nameOf; rw [hnd, if_neg (by decide), if_pos hc, if_pos ha, hY]
            have hb : (X.toList == [120, 109, 108, 110, 115]) = true := eq_xmlns (by rw [hX]; exact ha.2)
            obtain ⟨hattr, _⟩ := ha
            subst hattr
            clear hnd hok hX hY hc
            go_wp2_with fail
            show Met _ _ _
            go_meet
            case rel => exact ⟨by rw [HND.out], by rw [HOK.out], Mid.mk' q5 HA.out HB.out HR4.out HF4.out⟩
          · have hx : pre s2 = sXml := by
              have hnd' := hnd
              unfold need at hnd'
              by_cases e : pre s2 = sXml
              · exact e
              · exfalso; apply ha; simpa [hc, e] using hnd'
            have HA : Hid (nsXml = ansA s0 s2 attr ds) := by show _ = _; unfold ansA nameOf; rw [hnd, if_neg (by decide), if_pos hc, if_neg ha]
            have HB : Hid (Y = ansB s0 s2 attr) := by show _ = _; unfold ansB nameOf; rw [hnd, if_neg (by decide), if_pos hc, if_neg ha, hY]
            have hb : (X.toList == [120, 109, 108, 110, 115]) = false := ne_xmlns (by rw [hX, hx]; decide)
            have hb2 : (X.toList == [120, 109, 108]) = true := eq_xml (by rw [hX]; exact hx)
            clear hnd hok hX hY hc ha hx
            cases attr with
            | true =>
              go_wp2_with fail
              show Met _ _ _
              go_meet
              case rel => exact ⟨by rw [HND.out], by rw [HOK.out], Mid.mk' q5 HA.out HB.out HR4.out HF4.out⟩
            | false =>
              go_wp2_with fail
              show Met _ _ _
              go_meet
              case rel => exact ⟨by rw [HND.out], by rw [HOK.out], Mid.mk' q5 HA.out HB.out HR4.out HF4.out⟩
        | true =>
          have hnd' := hnd
          unfold need at hnd'
          simp only [Bool.and_eq_true, decide_eq_true_eq, Bool.not_eq_true', Bool.and_eq_false_iff, decide_eq_false_iff_not] at hnd'
          obtain ⟨_, hx1, hx2⟩ := hnd'
          have hb2 : (X.toList == [120, 109, 108]) = false := ne_xml (by rw [hX]; exact hx2)
          have hb1 : attr = false ∨ (X.toList == [120, 109, 108, 110, 115]) = false := by
            rcases hx1 with h | h
            · exact Or.inl h
            · exact Or.inr (ne_xmlns (by rw [hX]; exact h))
          have HND : Hid (need s2 attr = true) := hnd
          have HB : Hid (Y = ansB s0 s2 attr) := by show _ = _; unfold ansB; rw [hnd, if_pos rfl, hY]
          have HX : Hid (X = pre s2) := hX
          have HRDW : Hid (∀ d k A B, ds[k]? = some d → ((w4.alloc A).alloc B).cell? ⟨b, o + k * 4, none⟩ = some (.string d.p) ∧ ((w4.alloc A).alloc B).cell? ⟨b, o + k * 4 + 1, none⟩ = some (.string d.s)) := by
            intro d k A B hd
            have hf := ((HF4.out.alloc HF4.out.below.size A).alloc (by simpa using Nat.le_succ_of_le HF4.out.below.size) B)
            have hin := HIN.out.below hf.below (Nat.le_refl _)
            obtain ⟨b', o', hpe, _, hcc⟩ := hin.at' hpos
            cases hpe
            exact ⟨(hcc k d hd).1, (hcc k d hd).2.1⟩
          clear hx1 hx2 hnd hX hY hc
          cases hb3 : (X.toList == [120, 109, 108, 110, 115]) with
          | true =>
            obtain rfl : attr = false := by
              rcases hb1 with h | h
              · exact h
              · rw [hb3] at h; cases h
            clear hb1
            go_wp2_with fail
            go_loop [18, 19] (fun wok x => wok = .bool false ∧ ∃ k : Nat, k ≤ n ∧ x = .int .i64 ((k : Int) - 1) ∧ ∀ j d, k ≤ j → ds[j]? = some d → d.p ≠ mt → d.p ≠ X) (fun _ x => (intOf x + 1).toNat)
            case atStart => exact ⟨rfl, n, Nat.le_refl _, rfl, fun j d hj hd => by have := (List.getElem?_eq_some_iff.1 hd).1; rw [HIN.out.len] at this; omega⟩
            case round =>
              obtain ⟨rfl, k, hk, rfl, hno⟩ := hrel
              have HNO : Hid (∀ j d, k ≤ j → ds[j]? = some d → d.p ≠ mt → d.p ≠ X) := hno
              clear hno
              cases k with
              | zero =>
                have hst : (st ds).1 (pre s2) = none := st_none _ ds (fun d hd hm => by
                  obtain ⟨j, hj⟩ := List.getElem?_of_mem hd
                  rw [← HX.out]
                  exact HNO.out j d (Nat.zero_le _) hj hm)
                have HOK : Hid (ansOk s2 false ds = false) := by show _ = _; unfold ansOk; rw [HND.out, if_pos rfl, hst]; rfl
                have HA : Hid (mt = ansA s0 s2 false ds) := by show _ = _; unfold ansA; rw [HND.out, if_pos rfl, hst]; rfl
                clear hst
                have e0 : (((0 : Nat) : Int) - 1) = -1 := by omega
                rw [e0]
                go_wp2_with fail
                show Met _ _ _
                go_meet
                case rel => exact ⟨by rw [HND.out], by rw [HOK.out], Mid.mk' q5 HA.out HB.out HR4.out HF4.out⟩
              | succ k =>
                have hkn : k < n := by omega
                obtain ⟨d, hd⟩ : ∃ d, ds[k]? = some d := ⟨_, List.getElem?_eq_getElem (by rw [HIN.out.len]; exact hkn)⟩
                have c0 := fun A B => (HRDW.out d k A B hd).1
                have c1 := fun A B => (HRDW.out d k A B hd).2
                have hki : (k : Int) < (n : Int) := by omega
                have e0 : (((k + 1 : Nat) : Int) - 1) = (k : Int) := by omega
                rw [e0]
                clear e0
                by_cases hp : d.p = mt
                · have hpe := isEmpty_mt hp
                  have HP : Hid (d.p = mt) := hp
                  clear hp
                  go_wp2_with fail
                  go_round
                  case rel => exact ⟨rfl, k, by omega, rfl, fun j d' hj hd' hm => by
                    rcases Nat.eq_or_lt_of_le hj with h | h
                    · subst h; rw [hd] at hd'; cases hd'; exact absurd HP.out hm
                    · exact HNO.out j d' h hd' hm⟩
                  case measure => simp [intOf] <;> omega
                · have hpe := isEmpty_ne hp
                  by_cases hq : d.p = X
                  · have hqe := eqS_true hq
                    have hst : (st ds).1 (pre s2) = some d.s := by
                      rw [← HX.out]
                      refine st_found X (by rw [← hq]; exact hp) ds k d hd hq (fun j' d' h1 h2 => ?_)
                      by_cases hm : d'.p = mt
                      · rw [hm, ← hq]; exact fun e => hp e.symm
                      · exact HNO.out j' d' h1 h2 hm
                    have HOK : Hid (ansOk s2 false ds = true) := by show _ = _; unfold ansOk; rw [HND.out, if_pos rfl, hst]; rfl
                    have HA : Hid (d.s = ansA s0 s2 false ds) := by show _ = _; unfold ansA; rw [HND.out, if_pos rfl, hst]; rfl
                    clear hst hq hp
                    go_wp2_with fail
                    show Met _ _ _
                    go_meet
                    case rel => exact ⟨by rw [HND.out], by rw [HOK.out], Mid.mk' q5 HA.out HB.out HR4.out HF4.out⟩
                  · have hqe := eqS_false hq
                    have HQ : Hid (d.p ≠ X) := hq
                    clear hp hq
                    go_wp2_with fail
                    go_round
                    case rel => exact ⟨rfl, k, by omega, rfl, fun j d' hj hd' hm => by
                      rcases Nat.eq_or_lt_of_le hj with h | h
                      · subst h; rw [hd] at hd'; cases hd'; exact HQ.out
                      · exact HNO.out j d' h hd' hm⟩
                    case measure => simp [intOf] <;> omega
          | false =>
            clear hb1
            cases attr with
            | true =>
              go_wp2_with fail
              go_loop [18, 19] (fun wok x => wok = .bool false ∧ ∃ k : Nat, k ≤ n ∧ x = .int .i64 ((k : Int) - 1) ∧ ∀ j d, k ≤ j → ds[j]? = some d → d.p ≠ mt → d.p ≠ X) (fun _ x => (intOf x + 1).toNat)
              case atStart => exact ⟨rfl, n, Nat.le_refl _, rfl, fun j d hj hd => by have := (List.getElem?_eq_some_iff.1 hd).1; rw [HIN.out.len] at this; omega⟩
              case round =>
                obtain ⟨rfl, k, hk, rfl, hno⟩ := hrel
                have HNO : Hid (∀ j d, k ≤ j → ds[j]? = some d → d.p ≠ mt → d.p ≠ X) := hno
                clear hno
                cases k with
                | zero =>
                  have hst : (st ds).1 (pre s2) = none := st_none _ ds (fun d hd hm => by
                    obtain ⟨j, hj⟩ := List.getElem?_of_mem hd
                    rw [← HX.out]
                    exact HNO.out j d (Nat.zero_le _) hj hm)
                  have HOK : Hid (ansOk s2 true ds = false) := by show _ = _; unfold ansOk; rw [HND.out, if_pos rfl, hst]; rfl
                  have HA : Hid (mt = ansA s0 s2 true ds) := by show _ = _; unfold ansA; rw [HND.out, if_pos rfl, hst]; rfl
                  clear hst
                  have e0 : (((0 : Nat) : Int) - 1) = -1 := by omega
                  rw [e0]
                  go_wp2_with fail
                  show Met _ _ _
                  go_meet
                  case rel => exact ⟨by rw [HND.out], by rw [HOK.out], Mid.mk' q5 HA.out HB.out HR4.out HF4.out⟩
                | succ k =>
                  have hkn : k < n := by omega
                  obtain ⟨d, hd⟩ : ∃ d, ds[k]? = some d := ⟨_, List.getElem?_eq_getElem (by rw [HIN.out.len]; exact hkn)⟩
                  have c0 := fun A B => (HRDW.out d k A B hd).1
                  have c1 := fun A B => (HRDW.out d k A B hd).2
                  have hki : (k : Int) < (n : Int) := by omega
                  have e0 : (((k + 1 : Nat) : Int) - 1) = (k : Int) := by omega
                  rw [e0]
                  clear e0
                  by_cases hp : d.p = mt
                  · have hpe := isEmpty_mt hp
                    have HP : Hid (d.p = mt) := hp
                    clear hp
                    go_wp2_with fail
                    go_round
                    case rel => exact ⟨rfl, k, by omega, rfl, fun j d' hj hd' hm => by
                      rcases Nat.eq_or_lt_of_le hj with h | h
                      · subst h; rw [hd] at hd'; cases hd'; exact absurd HP.out hm
                      · exact HNO.out j d' h hd' hm⟩
                    case measure => simp [intOf] <;> omega
                  · have hpe := isEmpty_ne hp
                    by_cases hq : d.p = X
                    · have hqe := eqS_true hq
                      have hst : (st ds).1 (pre s2) = some d.s := by
                        rw [← HX.out]
                        refine st_found X (by rw [← hq]; exact hp) ds k d hd hq (fun j' d' h1 h2 => ?_)
                        by_cases hm : d'.p = mt
                        · rw [hm, ← hq]; exact fun e => hp e.symm
                        · exact HNO.out j' d' h1 h2 hm
                      have HOK : Hid (ansOk s2 true ds = true) := by show _ = _; unfold ansOk; rw [HND.out, if_pos rfl, hst]; rfl
                      have HA : Hid (d.s = ansA s0 s2 true ds) := by show _ = _; unfold ansA; rw [HND.out, if_pos rfl, hst]; rfl
                      clear hst hq hp
                      go_wp2_with fail
                      show Met _ _ _
                      go_meet
                      case rel => exact ⟨by rw [HND.out], by rw [HOK.out], Mid.mk' q5 HA.out HB.out HR4.out HF4.out⟩
                    · have hqe := eqS_false hq
                      have HQ : Hid (d.p ≠ X) := hq
                      clear hp hq
                      go_wp2_with fail
                      go_round
                      case rel => exact ⟨rfl, k, by omega, rfl, fun j d' hj hd' hm => by
                        rcases Nat.eq_or_lt_of_le hj with h | h
                        · subst h; rw [hd] at hd'; cases hd'; exact HQ.out
                        · exact HNO.out j d' h hd' hm⟩
                      case measure => simp [intOf] <;> omega
            | false =>
              go_wp2_with fail
              go_loop [18, 19] (fun wok x => wok = .bool false ∧ ∃ k : Nat, k ≤ n ∧ x = .int .i64 ((k : Int) - 1) ∧ ∀ j d, k ≤ j → ds[j]? = some d → d.p ≠ mt → d.p ≠ X) (fun _ x => (intOf x + 1).toNat)
              case atStart => exact ⟨rfl, n, Nat.le_refl _, rfl, fun j d hj hd => by have := (List.getElem?_eq_some_iff.1 hd).1; rw [HIN.out.len] at this; omega⟩
              case round =>
                obtain ⟨rfl, k, hk, rfl, hno⟩ := hrel
                have HNO : Hid (∀ j d, k ≤ j → ds[j]? = some d → d.p ≠ mt → d.p ≠ X) := hno
                clear hno
                cases k with
                | zero =>
                  have hst : (st ds).1 (pre s2) = none := st_none _ ds (fun d hd hm => by
                    obtain ⟨j, hj⟩ := List.getElem?_of_mem hd
                    rw [← HX.out]
                    exact HNO.out j d (Nat.zero_le _) hj hm)
                  have HOK : Hid (ansOk s2 false ds = false) := by show _ = _; unfold ansOk; rw [HND.out, if_pos rfl, hst]; rfl
                  have HA : Hid (mt = ansA s0 s2 false ds) := by show _ = _; unfold ansA; rw [HND.out, if_pos rfl, hst]; rfl
                  clear hst
                  have e0 : (((0 : Nat) : Int) - 1) = -1 := by omega
                  rw [e0]
                  go_wp2_with fail
                  show Met _ _ _
                  go_meet
                  case rel => exact ⟨by rw [HND.out], by rw [HOK.out], Mid.mk' q5 HA.out HB.out HR4.out HF4.out⟩
                | succ k =>
                  have hkn : k < n := by omega
                  obtain ⟨d, hd⟩ : ∃ d, ds[k]? = some d := ⟨_, List.getElem?_eq_getElem (by rw [HIN.out.len]; exact hkn)⟩
                  have c0 := fun A B => (HRDW.out d k A B hd).1
                  have c1 := fun A B => (HRDW.out d k A B hd).2
                  have hki : (k : Int) < (n : Int) := by omega
                  have e0 : (((k + 1 : Nat) : Int) - 1) = (k : Int) := by omega
                  rw [e0]
                  clear e0
                  by_cases hp : d.p = mt
                  · have hpe := isEmpty_mt hp
                    have HP : Hid (d.p = mt) := hp
                    clear hp
                    go_wp2_with fail
                    go_round
                    case rel => exact ⟨rfl, k, by omega, rfl, fun j d' hj hd' hm => by
                      rcases Nat.eq_or_lt_of_le hj with h | h
                      · subst h; rw [hd] at hd'; cases hd'; exact absurd HP.out hm
                      · exact HNO.out j d' h hd' hm⟩
                    case measure => simp [intOf] <;> omega
                  · have hpe := isEmpty_ne hp
                    by_cases hq : d.p = X
                    · have hqe := eqS_true hq
                      have hst : (st ds).1 (pre s2) = some d.s := by
                        rw [← HX.out]
                        refine st_found X (by rw [← hq]; exact hp) ds k d hd hq (fun j' d' h1 h2 => ?_)
                        by_cases hm : d'.p = mt
                        · rw [hm, ← hq]; exact fun e => hp e.symm
                        · exact HNO.out j' d' h1 h2 hm
                      have HOK : Hid (ansOk s2 false ds = true) := by show _ = _; unfold ansOk; rw [HND.out, if_pos rfl, hst]; rfl
                      have HA : Hid (d.s = ansA s0 s2 false ds) := by show _ = _; unfold ansA; rw [HND.out, if_pos rfl, hst]; rfl
                      clear hst hq hp
                      go_wp2_with fail
                      show Met _ _ _
                      go_meet
                      case rel => exact ⟨by rw [HND.out], by rw [HOK.out], Mid.mk' q5 HA.out HB.out HR4.out HF4.out⟩
                    · have hqe := eqS_false hq
                      have HQ : Hid (d.p ≠ X) := hq
                      clear hp hq
                      go_wp2_with fail
                      go_round
                      case rel => exact ⟨rfl, k, by omega, rfl, fun j d' hj hd' hm => by
                        rcases Nat.eq_or_lt_of_le hj with h | h
                        · subst h; rw [hd] at hd'; cases hd'; exact HQ.out
                        · exact HNO.out j d' h hd' hm⟩
                      case measure => simp [intOf] <;> omega
      · have hn : ¬ ci s2 < s2.size := by omega
        have hnd : need s2 attr = false := by unfold need; simp [hn]
        have hok : ansOk s2 attr ds = true := by unfold ansOk; rw [hnd]; rfl
        have HND : Hid (need s2 attr = false) := hnd
        have HOK : Hid (ansOk s2 attr ds = true) := hok
        cases attr with
        | true =>
          by_cases hx : s2 = sXmlns
          · have HA : Hid (nsXmlns = ansA s0 s2 true ds) := by show _ = _; unfold ansA nameOf; rw [hnd, if_neg (by decide), if_neg hn, if_pos rfl, if_pos hx]
            have HB : Hid (s2 = ansB s0 s2 true) := by show _ = _; unfold ansB nameOf; rw [hnd, if_neg (by decide), if_neg hn, if_pos rfl, if_pos hx]
            have hb : (s2.toList == [120, 109, 108, 110, 115]) = true := eq_xmlns hx
            clear hnd hok hX hY hc hn hx
            go_wp2_with fail
            show Met _ _ _
            go_meet
            case rel => exact ⟨by rw [HND.out], by rw [HOK.out], Mid.mk' q5 HA.out HB.out HR4.out HF4.out⟩
          · have HA : Hid (mt = ansA s0 s2 true ds) := by show _ = _; unfold ansA nameOf; rw [hnd, if_neg (by decide), if_neg hn, if_pos rfl, if_neg hx]
            have HB : Hid (s2 = ansB s0 s2 true) := by show _ = _; unfold ansB nameOf; rw [hnd, if_neg (by decide), if_neg hn, if_pos rfl, if_neg hx]
            have hb : (s2.toList == [120, 109, 108, 110, 115]) = false := ne_xmlns hx
            clear hnd hok hX hY hc hn hx
            go_wp2_with fail
            show Met _ _ _
            go_meet
            case rel => exact ⟨by rw [HND.out], by rw [HOK.out], Mid.mk' q5 HA.out HB.out HR4.out HF4.out⟩
        | false =>
          have HA : Hid (s0 = ansA s0 s2 false ds) := by show _ = _; unfold ansA nameOf; rw [hnd, if_neg (by decide), if_neg hn, if_neg (by decide)]
          have HB : Hid (s2 = ansB s0 s2 false) := by show _ = _; unfold ansB nameOf; rw [hnd, if_neg (by decide), if_neg hn, if_neg (by decide)]
          clear hnd hok hX hY hc hn
          go_wp2_with fail
          show Met _ _ _
          go_meet
          case rel => exact ⟨by rw [HND.out], by rw [HOK.out], Mid.mk' q5 HA.out HB.out HR4.out HF4.out⟩
    case rest =>
      as_aux_lemma =>
      obtain ⟨hlk, rfl, hmid⟩ := hcut
      cases hL : need s2 attr with
      | false =>
        rw [hL] at hlk
        subst hlk
        have HL : Hid (need s2 attr = false) := hL
        have HDS : Hid (dsOf s2 attr ds = ds) := by show _ = _; unfold dsOf; rw [hL]; rfl
        have HMP : Hid (∀ mb, mpOf s2 attr ds mb = none) := by intro mb; unfold mpOf; rw [hL]; rfl
        clear hL
        go_step
        go_light
        obtain ⟨m1, m2, ⟨dv, mb, hrd⟩, hfr⟩ := hmid
        rw [HDS.out, HMP.out] at hrd
        have g0 := cell_of_row wc w4.heap.size 0 _ 31 _ m1
        have g1 := cell_of_row wc w4.heap.size 1 _ 31 _ m1
        have g2 := cell_of_row wc (w4.heap.size + 1) 0 _ 31 _ m2
        have g3 := cell_of_row wc (w4.heap.size + 1) 1 _ 31 _ m2
        have hds := defaultSpace_any wc _ _ _ _ _ _ _ hrd
        have hdc := declCount_any wc _ _ _ _ _ _ _ hrd
        rw [HIN.out.len] at hdc
        have HRD : Hid (Rd wc w0.heap.size w0.heap.size (.slice none 0 0) s0 dv ds none) := hrd
        have HFR : Hid (Fr w0.heap.size w0 wc) := hfr
        have hnn : ((n : Int) == (n : Int)) = true := by simp
        clear hrd hfr m1 m2 HR4 HF4
        generalize ansOk s2 attr ds = okk at *
        go_wp2_with fail
        refine hds.mono ?_
        rintro e w6 ⟨rfl, hw6⟩
        subst hw6
        clear hds
        go_wp2_with fail
        refine hdc.mono ?_
        rintro e w7 ⟨rfl, hw7⟩
        subst hw7
        clear hdc g0 g1 g2 g3
        go_upto_block 5 with fail
        go_cut [20] from 195 to 273 (fun x wr => Rd wr w0.heap.size w0.heap.size (.slice none 0 0) s0 dv ds none ∧ Fr w0.heap.size w0 wr)
        case first =>
          as_aux_lemma =>
          rename_i J K' hJ hM
          have hM' : ∀ a w, Mt J a w → K' a w := hM
          go_light
          go_wp2_with fail
          go_loopw [20] (fun x wr => ∃ k : Nat, k ≤ n ∧ x = .int .i64 k ∧ Rd wr w0.heap.size w0.heap.size (.slice none 0 0) s0 dv ds none ∧ Fr w0.heap.size w0 wr) (fun x _ => n - (intOf x).toNat)
          case atStart => exact ⟨0, Nat.zero_le _, rfl, HRD.out, HFR.out⟩
          case round =>
            obtain ⟨k, hk, rfl, hrd, hfr⟩ := hrel
            by_cases hlt : k < n
            · obtain ⟨d, hd⟩ : ∃ d, ds[k]? = some d := ⟨_, List.getElem?_eq_getElem (by rw [HIN.out.len]; exact hlt)⟩
              have hki : (k : Int) < (n : Int) := by omega
              have hbase : w0.heap.size ≤ wr.heap.size := hfr.below.size
              have HRR : Hid (Rd wr w0.heap.size w0.heap.size (.slice none 0 0) s0 dv ds none) := hrd
              have HFF : Hid (Fr w0.heap.size w0 wr) := hfr
              have hda := declAt_any wr _ _ _ _ _ _ _ k d hrd hd (by rw [HIN.out.len]; omega)
              clear hrd hfr
              go_wp2_with fail
              refine hda.mono ?_
              rintro e w8 ⟨rfl, hf8⟩
              clear hda
              have hfb : Fr w0.heap.size w0 w8 := HFF.out.trans ⟨hf8.below.mono hbase, hf8.tag⟩
              have HR8 : Hid (Rd w8 w0.heap.size w0.heap.size (.slice none 0 0) s0 dv ds none) := HRR.out.below hf8.below (Nat.le_refl _)
              have HF8 : Hid (Fr w0.heap.size w0 w8) := hfb
              have hin := HIN.out.below hfb.below (Nat.le_refl _)
              obtain ⟨b', o', hpe', _, hcc⟩ := hin.at' hpos
              cases hpe'
              obtain ⟨c0, c1, c2, c3⟩ := hcc k d hd
              have HIN8 : Hid (∀ j d, ds[j]? = some d → w8.cell? ⟨b, o + j * 4, none⟩ = some (.string d.p) ∧ w8.cell? ⟨b, o + j * 4 + 1, none⟩ = some (.string d.s)) := fun j d hj => ⟨(hcc j d hj).1, (hcc j d hj).2.1⟩
              clear hcc hin hfb hf8 HRR HFF
              go_wp2_with fail

              go_roundw
              case rel => exact ⟨k + 1, by omega, by go_num, HR8.out, HF8.out⟩
              case measure => simp [intOf]; omega
            · have HRR : Hid (Rd wr w0.heap.size w0.heap.size (.slice none 0 0) s0 dv ds none) := hrd
              have HFF : Hid (Fr w0.heap.size w0 wr) := hfr
              clear hrd hfr
              go_wp2_with fail
              show Met _ _ _
              go_meet
              case rel => exact ⟨HRR.out, HFF.out⟩
        case rest =>
          as_aux_lemma =>
          obtain ⟨hrd, hfr⟩ := hcut
          go_step
          go_light
          have HF9 : Hid (Fr w0.heap.size w0 wc) := hfr
          have hpn := prefixesNil_any wc _ _ _ _ _ _ _ hrd
          clear hrd hfr HRD HFR
          go_wp2_with fail
          refine hpn.mono ?_
          rintro e w9 ⟨rfl, hw9⟩
          subst hw9
          go_wp2_with fail
          go_ret
          exact ⟨rfl, HF9.out.below⟩
      | true =>
        rw [hL] at hlk
        subst hlk
        have HL : Hid (need s2 attr = true) := hL
        have HDS : Hid (dsOf s2 attr ds = recs ds n) := by show _ = _; unfold dsOf; rw [hL, if_pos rfl, HIN.out.len]
        have HMP : Hid (∀ mb, mpOf s2 attr ds mb = some (mb, ds.length, (st ds).1, (st ds).2)) := by intro mb; unfold mpOf; rw [hL]; rfl
        clear hL
        go_step
        go_light
        obtain ⟨m1, m2, ⟨dv, mb, hrd⟩, hfr⟩ := hmid
        rw [HDS.out, HMP.out] at hrd
        have g0 := cell_of_row wc w4.heap.size 0 _ 31 _ m1
        have g1 := cell_of_row wc w4.heap.size 1 _ 31 _ m1
        have g2 := cell_of_row wc (w4.heap.size + 1) 0 _ 31 _ m2
        have g3 := cell_of_row wc (w4.heap.size + 1) 1 _ 31 _ m2
        have hds := defaultSpace_any wc _ _ _ _ _ _ _ hrd
        have hdc := declCount_any wc _ _ _ _ _ _ _ hrd
        rw [recs_length, HIN.out.len] at hdc
        have HRD : Hid (Rd wc w0.heap.size w0.heap.size (.slice none 0 0) s0 dv (recs ds n) (some (mb, ds.length, (st ds).1, (st ds).2))) := hrd
        have HFR : Hid (Fr w0.heap.size w0 wc) := hfr
        have hnn : ((n : Int) == (n : Int)) = true := by simp
        clear hrd hfr m1 m2 HR4 HF4
        generalize ansOk s2 attr ds = okk at *
        go_wp2_with fail
        refine hds.mono ?_
        rintro e w6 ⟨rfl, hw6⟩
        subst hw6
        clear hds
        go_wp2_with fail
        refine hdc.mono ?_
        rintro e w7 ⟨rfl, hw7⟩
        subst hw7
        clear hdc g0 g1 g2 g3
        go_upto_block 5 with fail
        go_cut [20] from 195 to 273 (fun x wr => Rd wr w0.heap.size w0.heap.size (.slice none 0 0) s0 dv (recs ds n) (some (mb, ds.length, (st ds).1, (st ds).2)) ∧ Fr w0.heap.size w0 wr)
        case first =>
          as_aux_lemma =>
          rename_i J K' hJ hM
          have hM' : ∀ a w, Mt J a w → K' a w := hM
          go_light
          go_wp2_with fail
          go_loopw [20] (fun x wr => ∃ k : Nat, k ≤ n ∧ x = .int .i64 k ∧ Rd wr w0.heap.size w0.heap.size (.slice none 0 0) s0 dv (recs ds n) (some (mb, ds.length, (st ds).1, (st ds).2)) ∧ Fr w0.heap.size w0 wr) (fun x _ => n - (intOf x).toNat)
          case atStart => exact ⟨0, Nat.zero_le _, rfl, HRD.out, HFR.out⟩
          case round =>
            obtain ⟨k, hk, rfl, hrd, hfr⟩ := hrel
            by_cases hlt : k < n
            · obtain ⟨d, hd⟩ : ∃ d, ds[k]? = some d := ⟨_, List.getElem?_eq_getElem (by rw [HIN.out.len]; exact hlt)⟩
              have hki : (k : Int) < (n : Int) := by omega
              have hbase : w0.heap.size ≤ wr.heap.size := hfr.below.size
              have HRR : Hid (Rd wr w0.heap.size w0.heap.size (.slice none 0 0) s0 dv (recs ds n) (some (mb, ds.length, (st ds).1, (st ds).2))) := hrd
              have HFF : Hid (Fr w0.heap.size w0 wr) := hfr
              by_cases hp : d.p = mt
              · have hd' : (recs ds n)[k]? = some d := by
                  rw [recs_get, hd]
                  simp [recAt, hp]
                have hpe := isEmpty_mt hp
                clear hp
                have hda := declAt_any wr _ _ _ _ _ _ _ k d hrd hd' (by rw [recs_length, HIN.out.len]; omega)
                clear hrd hfr
                go_wp2_with fail
                refine hda.mono ?_
                rintro e w8 ⟨rfl, hf8⟩
                clear hda
                have hfb : Fr w0.heap.size w0 w8 := HFF.out.trans ⟨hf8.below.mono hbase, hf8.tag⟩
                have HR8 : Hid (Rd w8 w0.heap.size w0.heap.size (.slice none 0 0) s0 dv (recs ds n) (some (mb, ds.length, (st ds).1, (st ds).2))) := HRR.out.below hf8.below (Nat.le_refl _)
                have HF8 : Hid (Fr w0.heap.size w0 w8) := hfb
                have hin := HIN.out.below hfb.below (Nat.le_refl _)
                obtain ⟨b', o', hpe', _, hcc⟩ := hin.at' hpos
                cases hpe'
                obtain ⟨c0, c1, c2, c3⟩ := hcc k d hd
                have HIN8 : Hid (∀ j d, ds[j]? = some d → w8.cell? ⟨b, o + j * 4, none⟩ = some (.string d.p) ∧ w8.cell? ⟨b, o + j * 4 + 1, none⟩ = some (.string d.s)) := fun j d hj => ⟨(hcc j d hj).1, (hcc j d hj).2.1⟩
                clear hcc hin hfb hf8 HRR HFF
                go_wp2_with fail
                go_roundw
                case rel => exact ⟨k + 1, by omega, by go_num, HR8.out, HF8.out⟩
                case measure => simp [intOf]; omega
              · obtain ⟨R, hR⟩ : ∃ R, R = ((st (ds.take k)).1 d.p).getD mt := ⟨_, rfl⟩
                obtain ⟨B, hB⟩ : ∃ B, B = ((st (ds.take k)).1 d.p).isSome := ⟨_, rfl⟩
                have hd' : (recs ds n)[k]? = some ⟨d.p, d.s, R, B⟩ := by
                  rw [recs_get, hd]
                  simp [recAt, hp, hR, hB, hlt]
                have HRE : Hid (R = ((st (ds.take k)).1 d.p).getD mt) := hR
                have HBE : Hid (B = ((st (ds.take k)).1 d.p).isSome) := hB
                have hpe := isEmpty_ne hp
                have HP : Hid (d.p ≠ mt) := hp
                clear hp hR hB
                have hda := declAt_any wr _ _ _ _ _ _ _ k ⟨d.p, d.s, R, B⟩ hrd hd' (by rw [recs_length, HIN.out.len]; omega)
                clear hrd hfr
                go_wp2_with fail
                refine hda.mono ?_
                rintro e w8 ⟨rfl, hf8⟩
                clear hda
                have hfb : Fr w0.heap.size w0 w8 := HFF.out.trans ⟨hf8.below.mono hbase, hf8.tag⟩
                have HR8 : Hid (Rd w8 w0.heap.size w0.heap.size (.slice none 0 0) s0 dv (recs ds n) (some (mb, ds.length, (st ds).1, (st ds).2))) := HRR.out.below hf8.below (Nat.le_refl _)
                have HF8 : Hid (Fr w0.heap.size w0 w8) := hfb
                have hin := HIN.out.below hfb.below (Nat.le_refl _)
                obtain ⟨b', o', hpe', _, hcc⟩ := hin.at' hpos
                cases hpe'
                obtain ⟨c0, c1, c2, c3⟩ := hcc k d hd
                have HIN8 : Hid (∀ j d, ds[j]? = some d → w8.cell? ⟨b, o + j * 4, none⟩ = some (.string d.p) ∧ w8.cell? ⟨b, o + j * 4 + 1, none⟩ = some (.string d.s)) := fun j d hj => ⟨(hcc j d hj).1, (hcc j d hj).2.1⟩
                clear hcc hin hfb hf8 HRR HFF
                go_wp2_with fail
                go_loopw [25, 26, 27] (fun vr vb x wr => vr = .string ⟨#[]⟩ ∧ vb = .bool false ∧ (∃ j : Nat, j ≤ k ∧ x = .int .i64 ((j : Int) - 1) ∧ ∀ j' d', j ≤ j' → j' < k → ds[j']? = some d' → d'.p ≠ d.p) ∧ ∃ q, wr = w8.drewN q) (fun _ _ x _ => (intOf x + 1).toNat)
                case atStart => exact ⟨rfl, rfl, ⟨k, Nat.le_refl _, rfl, fun j' d' h1 h2 => by omega⟩, 0, rfl⟩
                case round =>
                  obtain ⟨rfl, rfl, ⟨j, hj, rfl, hno⟩, q8, rfl⟩ := hrel
                  have HNO : Hid (∀ j' d', j ≤ j' → j' < k → ds[j']? = some d' → d'.p ≠ d.p) := hno
                  clear hno
                  cases j with
                  | zero =>
                    have hst : (st (ds.take k)).1 d.p = none := st_none _ _ (fun x hx hm => by
                      obtain ⟨j', hj'⟩ := List.getElem?_of_mem hx
                      have hlk : j' < k := by have := (List.getElem?_eq_some_iff.1 hj').1; simp at this; omega
                      rw [List.getElem?_take, if_pos hlk] at hj'
                      exact HNO.out j' x (Nat.zero_le _) hlk hj')
                    have hRm : R = mt := by rw [HRE.out, hst]; rfl
                    have hBm : B = false := by rw [HBE.out, hst]; rfl
                    have hre := isEmpty_mt hRm
                    clear hst hRm HRE HBE
                    subst hBm
                    have e0 : (((0 : Nat) : Int) - 1) = -1 := by omega
                    rw [e0]
                    have HR9 : Hid (Rd (w8.drewN q8) w0.heap.size w0.heap.size (.slice none 0 0) s0 dv (recs ds n) (some (mb, ds.length, (st ds).1, (st ds).2))) := HR8.out.drewN q8
                    have HF9 : Hid (Fr w0.heap.size w0 (w8.drewN q8)) := HF8.out.drewN q8
                    go_wp2_with fail
                    go_roundw
                    case rel => exact ⟨k + 1, by omega, by go_num, HR9.out, HF9.out⟩
                    case measure => simp [intOf]; omega
                  | succ j =>
                    have hjn : j < n := by omega
                    obtain ⟨dj, hdj⟩ : ∃ d, ds[j]? = some d := ⟨_, List.getElem?_eq_getElem (by rw [HIN.out.len]; exact hjn)⟩
                    obtain ⟨x0, x1⟩ := HIN8.out j dj hdj
                    have hji : (j : Int) < (n : Int) := by omega
                    have e0 : (((j + 1 : Nat) : Int) - 1) = (j : Int) := by omega
                    rw [e0]
                    clear e0
                    by_cases hq : dj.p = d.p
                    · have hqe := eqS_true hq
                      have hst : (st (ds.take k)).1 d.p = some dj.s := by
                        refine st_found d.p HP.out _ j dj ?_ hq (fun j' d' h1 h2 => ?_)
                        · rw [List.getElem?_take, if_pos (by omega)]; exact hdj
                        · have hlk : j' < k := by have := (List.getElem?_eq_some_iff.1 h2).1; simp at this; omega
                          rw [List.getElem?_take, if_pos hlk] at h2
                          exact HNO.out j' d' h1 hlk h2
                      have hRm : R = dj.s := by rw [HRE.out, hst]; rfl
                      have hBm : B = true := by rw [HBE.out, hst]; rfl
                      clear hst HRE HBE hq
                      subst hBm hRm
                      have HR9 : Hid (∀ q, Rd (w8.drewN q) w0.heap.size w0.heap.size (.slice none 0 0) s0 dv (recs ds n) (some (mb, ds.length, (st ds).1, (st ds).2))) := fun q => HR8.out.drewN q
                      have HF9 : Hid (∀ q, Fr w0.heap.size w0 (w8.drewN q)) := fun q => HF8.out.drewN q
                      go_wp2_with fail
                      go_quiet (fail)
                      go_wp2_with fail
                      go_roundw
                      case rel => exact ⟨k + 1, by omega, by go_num, HR9.out _, HF9.out _⟩
                      case measure => simp [intOf]; omega
                    · have hqe := eqS_false hq
                      have HQ : Hid (dj.p ≠ d.p) := hq
                      clear hq
                      go_wp2_with fail
                      go_quiet (fail)
                      go_wp2_with fail
                      go_roundw
                      case rel => exact ⟨rfl, rfl, ⟨j, by omega, rfl, fun j' d' h1 h2 h3 => by
                        rcases Nat.eq_or_lt_of_le h1 with h | h
                        · subst h; rw [hdj] at h3; cases h3; exact HQ.out
                        · exact HNO.out j' d' h h2 h3⟩, _, rfl⟩
                      case measure => simp [intOf] <;> omega
            · have HRR : Hid (Rd wr w0.heap.size w0.heap.size (.slice none 0 0) s0 dv (recs ds n) (some (mb, ds.length, (st ds).1, (st ds).2))) := hrd
              have HFF : Hid (Fr w0.heap.size w0 wr) := hfr
              clear hrd hfr
              go_wp2_with fail
              show Met _ _ _
              go_meet
              case rel => exact ⟨HRR.out, HFF.out⟩
        case rest =>
          as_aux_lemma =>
          obtain ⟨hrd, hfr⟩ := hcut
          go_step
          go_light
          have HF9 : Hid (Fr w0.heap.size w0 wc) := hfr
          have hpn := prefixesNil_any wc _ _ _ _ _ _ _ hrd
          have hpc := prefixCount_any wc _ _ _ _ _ _ _ _ _ _ hrd
          rw [st_count] at hpc
          have HPL : Hid (∀ k : ByteArray, k.size ≤ maxLen → Calls Try.prog 17 #[.pointer (some ⟨w0.heap.size, 0, none⟩), .string k] wc fun e w' => e = .returned (.tuple #[.string (((st ds).1 k).getD ⟨#[]⟩), .bool ((st ds).1 k).isSome]) ∧ w' = wc) := fun k hk => prefixLookup_any wc _ _ _ _ _ _ _ _ _ _ k hk hrd
          have hin := HIN.out.below hfr.below (Nat.le_refl _)
          obtain ⟨b', o', hpe', _, hcc⟩ := hin.at' hpos
          cases hpe'
          have HCC : Hid (∀ j d, ds[j]? = some d → wc.cell? ⟨b, o + j * 4, none⟩ = some (.string d.p) ∧ wc.cell? ⟨b, o + j * 4 + 1, none⟩ = some (.string d.s)) := fun j d hj => ⟨(hcc j d hj).1, (hcc j d hj).2.1⟩
          have HCL : Hid (cl ds ≤ n) := by have h1 := cl_le ds; rw [HIN.out.len] at h1; exact h1
          clear hrd hfr HRD HFR hin hcc
          go_wp2_with fail
          refine hpn.mono ?_
          rintro e w9 ⟨rfl, hw9⟩
          subst hw9
          clear hpn
          go_wp2_with fail
          go_loop [28, 29] (fun dd x => ∃ k : Nat, k ≤ n ∧ x = .int .i64 k ∧ ∃ c : Nat, c + cl (ds.drop k) = cl ds ∧ dd = .int .i64 c) (fun _ x => n - (intOf x).toNat)
          case atStart => exact ⟨0, Nat.zero_le _, rfl, 0, by simp, rfl⟩
          case round =>
            obtain ⟨k, hk, rfl, c', hc', rfl⟩ := hrel
            have HCT : Hid (c' + cl (ds.drop k) = cl ds) := hc'
            have hcb : c' ≤ 4096 := by have := HCL.out; omega
            clear hc'
            by_cases hlt : k < n
            · obtain ⟨d, hd⟩ : ∃ d, ds[k]? = some d := ⟨_, List.getElem?_eq_getElem (by rw [HIN.out.len]; exact hlt)⟩
              have hki : (k : Int) < (n : Int) := by omega
              obtain ⟨c0, c1⟩ := HCC.out k d hd
              have HDR : Hid (cl (ds.drop k) = (if d.p = mt then 0 else if ((ds.drop (k + 1)).any fun x => decide (x.p = d.p)) then 0 else 1) + cl (ds.drop (k + 1))) := cl_drop ds k d hd
              by_cases hp : d.p = mt
              · have hpe := isEmpty_mt hp
                have HP : Hid (d.p = mt) := hp
                clear hp
                go_wp2_with fail
                go_round
                case rel => exact ⟨k + 1, by omega, by go_num, c', by have h1 := HCT.out; have h2 := HDR.out; rw [if_pos HP.out] at h2; omega, rfl⟩
                case measure => simp [intOf]; omega
              · have hpe := isEmpty_ne hp
                have HP : Hid (d.p ≠ mt) := hp
                have hpl := HPL.out d.p (HIN.out.small d (List.mem_of_getElem? hd)).1
                clear hp
                go_wp2_with fail
                go_loop [31, 32] (fun la x => la = .bool true ∧ ∃ j : Nat, k + 1 ≤ j ∧ j ≤ n ∧ x = .int .i64 j ∧ ∀ j' d', k < j' → j' < j → ds[j']? = some d' → d'.p ≠ d.p) (fun _ x => n - (intOf x).toNat)
                case atStart => exact ⟨rfl, k + 1, Nat.le_refl _, by omega, by go_num, fun j' d' h1 h2 => by omega⟩
                case round =>
                  obtain ⟨rfl, j, hj1, hj2, rfl, hno⟩ := hrel
                  have HNO : Hid (∀ j' d', k < j' → j' < j → ds[j']? = some d' → d'.p ≠ d.p) := hno
                  clear hno
                  by_cases hjn : j < n
                  · obtain ⟨dj, hdj⟩ : ∃ d, ds[j]? = some d := ⟨_, List.getElem?_eq_getElem (by rw [HIN.out.len]; exact hjn)⟩
                    obtain ⟨x0, x1⟩ := HCC.out j dj hdj
                    have hji : (j : Int) < (n : Int) := by omega
                    by_cases hq : dj.p = d.p
                    · have hqe := eqS_true hq
                      have HQ : Hid (((ds.drop (k + 1)).any fun x => decide (x.p = d.p)) = true) := any_drop_true ds k j d.p dj (by omega) hdj hq
                      clear hq
                      go_wp2_with fail
                      go_round
                      case rel => exact ⟨k + 1, by omega, by go_num, c', by have h1 := HCT.out; have h2 := HDR.out; rw [if_neg HP.out, if_pos HQ.out] at h2; omega, rfl⟩
                      case measure => simp [intOf]; omega
                    · have hqe := eqS_false hq
                      have HQ : Hid (dj.p ≠ d.p) := hq
                      clear hq
                      go_wp2_with fail
                      go_round
                      case rel => exact ⟨rfl, j + 1, by omega, by omega, by go_num, fun j' d' h1 h2 h3 => by
                        rcases Nat.lt_succ_iff_lt_or_eq.1 h2 with h | h
                        · exact HNO.out j' d' h1 h h3
                        · subst h; rw [hdj] at h3; cases h3; exact HQ.out⟩
                      case measure => simp [intOf]; omega
                  · have hjn' : ¬ (j : Int) < (n : Int) := by omega
                    have hst : (st ds).1 d.p = some d.s := st_found d.p HP.out ds k d hd rfl (fun j' d' h1 h2 => HNO.out j' d' h1 (by have := (List.getElem?_eq_some_iff.1 h2).1; rw [HIN.out.len] at this; omega) h2)
                    rw [hst] at hpl
                    simp only [Option.getD_some, Option.isSome_some] at hpl
                    have HQ : Hid (((ds.drop (k + 1)).any fun x => decide (x.p = d.p)) = false) := any_drop_false ds k d.p (fun j' d' h1 h2 => HNO.out j' d' h1 (by have := (List.getElem?_eq_some_iff.1 h2).1; rw [HIN.out.len] at this; omega) h2)
                    clear hst
                    go_wp2_with fail
                    refine hpl.mono ?_
                    rintro e w10 ⟨rfl, hw10⟩
                    subst hw10
                    go_wp2_with fail
                    go_round
                    case rel => exact ⟨k + 1, by omega, by go_num, c' + 1, by have h1 := HCT.out; have h2 := HDR.out; rw [if_neg HP.out, HQ.out] at h2; simp at h2; omega, by go_num⟩
                    case measure => simp [intOf]; omega
            · have hcc : c' = cl ds := by
                have h1 := HCT.out
                rw [List.drop_of_length_le (by rw [HIN.out.len]; omega)] at h1
                simpa [cl] using h1
              subst hcc
              have hee : (((cl ds : Nat) : Int) == ((cl ds : Nat) : Int)) = true := by simp
              go_wp2_with fail
              refine hpc.mono ?_
              rintro e w10 ⟨rfl, hw10⟩
              subst hw10
              go_wp2_with fail
              go_ret
              exact ⟨rfl, HF9.out.below⟩

end Go.Proofs.Qxb6601967a
