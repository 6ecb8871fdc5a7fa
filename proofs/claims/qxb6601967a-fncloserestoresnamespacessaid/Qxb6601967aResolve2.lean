/-
  resolve where the prefix is looked up, and the shim ZZResolve.
-/
import Derived.Test.Qxb6601967aResolve
namespace Go.Proofs.Qxb6601967a
set_option linter.unusedVariables false
set_option linter.unusedSimpArgs false
open Go.RowKit Go.Maps

section
variable (w : World) (base r : Nat) (ov : Value) (dsp : ByteArray) (dv : Value) (ds : List Dcl)

set_option maxHeartbeats 800000 in
set_option maxRecDepth 100000 in
/-- The prefix is looked up: namespaceOf's answer a premise. -/
theorem resolve_look (mp mp' : Option (Nat × Nat × (ByteArray → Option ByteArray) × Nat)) (ds' : List Dcl) (v : ByteArray) (o : Bool) (s : ByteArray) (attr : Bool) (h : Rd w base r ov dsp dv ds mp) (hsz : s.size ≤ 1048576) (hnd : need s attr = true)
    (hns : ∀ q, Calls Try.prog 50 #[.pointer (some ⟨r, 0, none⟩), .string (pre s)] ((w.alloc (.cells #[.string ⟨#[]⟩, .string ⟨#[]⟩] 31)).drewN q) fun e w' => e = .returned (.tuple #[.string v, .bool o]) ∧
      Rd w' base r ov dsp dv ds' mp' ∧ Fr base ((w.alloc (.cells #[.string ⟨#[]⟩, .string ⟨#[]⟩] 31)).drewN q) w') :
    Calls Try.prog 44 #[.pointer (some ⟨r, 0, none⟩), .string s, .bool attr] w fun e w' =>
      e = .returned (.tuple #[.agg #[.string v, .string (loc s)], .bool o]) ∧ Rd w' base r ov dsp dv ds' mp' ∧ Fr base w w' := by
  have hnd' := hnd
  unfold need at hnd'
  simp only [Bool.and_eq_true, decide_eq_true_eq, Bool.not_eq_true', Bool.and_eq_false_iff, decide_eq_false_iff_not] at hnd'
  obtain ⟨hc, hx1, hx2⟩ := hnd'
  have hcut := cut49_hit s (w.alloc (.cells #[.string ⟨#[]⟩, .string ⟨#[]⟩] 31)) (ci s) rfl hc hsz
  have hbs : base ≤ w.heap.size := Nat.le_trans h.hb (Nat.le_of_lt h.blk.lt)
  have hb2 : ((s.extract 0 (ci s)).toList == [120, 109, 108]) = false := ne_xml hx2
  have key : ∀ (hb : attr = false ∨ ((s.extract 0 (ci s)).toList == [120, 109, 108, 110, 115]) = false), Calls Try.prog 44 #[.pointer (some ⟨r, 0, none⟩), .string s, .bool attr] w fun e w' =>
      e = .returned (.tuple #[.agg #[.string v, .string (loc s)], .bool o]) ∧ Rd w' base r ov dsp dv ds' mp' ∧ Fr base w w' := by
    intro hb
    have HNS : Hid (∀ q, Calls Try.prog 50 #[.pointer (some ⟨r, 0, none⟩), .string (s.extract 0 (ci s))] ((w.alloc (.cells #[.string ⟨#[]⟩, .string ⟨#[]⟩] 31)).drewN q) fun e w' => e = .returned (.tuple #[.string v, .bool o]) ∧
      Rd w' base r ov dsp dv ds' mp' ∧ Fr base ((w.alloc (.cells #[.string ⟨#[]⟩, .string ⟨#[]⟩] 31)).drewN q) w') := hns
    have HBS : Hid (base ≤ w.heap.size) := hbs
    clear hns h hnd hx1 hx2 hbs
    cases hq1 : ((s.extract 0 (ci s)).toList == [120, 109, 108, 110, 115]) with
    | true =>
      obtain rfl : attr = false := by
        rcases hb with h | h
        · exact h
        · rw [hq1] at h; cases h
      clear hb
      go_enter Try.func44, Try.ntmps44
      go_wp2_with fail
      refine hcut.mono ?_
      rintro e w1 ⟨rfl, q, rfl⟩
      go_wp2_with fail
      refine (HNS.out q).mono ?_
      rintro e w2 ⟨rfl, hrd, hfr⟩
      have hblk : w2.heap[w.heap.size]? = some (.cells #[.string ⟨#[]⟩, .string ⟨#[]⟩] 31 (0, 0)) := hfr.tag _ _ _ _ (by exact heap_alloc_new w _) (by decide) (by decide)
      have k0 := cell_of_row w2 w.heap.size 0 _ 31 _ hblk
      have k1 := cell_of_row w2 w.heap.size 1 _ 31 _ hblk
      have kf := fun j => frozen_of_row w2 w.heap.size j _ 31 hblk
      have HRD : Hid (Rd ((w2.setCell ⟨w.heap.size, 0, none⟩ (.string v)).setCell ⟨w.heap.size, 1, none⟩ (.string (s.extract (ci s + 1) s.size))) base r ov dsp dv ds' mp') :=
        (hrd.setOther hblk (by decide) (by decide) _).setOther (heap_setCell_same w2 _ 0 _ 31 _ hblk) (by decide) (by decide) _
      have HFR : Hid (Fr base w ((w2.setCell ⟨w.heap.size, 0, none⟩ (.string v)).setCell ⟨w.heap.size, 1, none⟩ (.string (s.extract (ci s + 1) s.size)))) :=
        (((((Fr.refl _ _).alloc HBS.out _).drewN q).trans hfr).setNew (Nat.le_refl _) HBS.out _).setNew (Nat.le_refl _) HBS.out _
      clear hrd hfr hblk
      go_wp2_with fail
      exact bodyPost_ret (v := .tuple #[.agg #[.string v, .string (loc s)], .bool o]) (by simp [results, Try.results44, go_sem, k0, k1]; rfl) rfl ⟨rfl, HRD.out, HFR.out⟩
    | false =>
      clear hb
      go_enter Try.func44, Try.ntmps44
      go_wp2_with fail
      refine hcut.mono ?_
      rintro e w1 ⟨rfl, q, rfl⟩
      go_wp2_with fail
      refine (HNS.out q).mono ?_
      rintro e w2 ⟨rfl, hrd, hfr⟩
      have hblk : w2.heap[w.heap.size]? = some (.cells #[.string ⟨#[]⟩, .string ⟨#[]⟩] 31 (0, 0)) := hfr.tag _ _ _ _ (by exact heap_alloc_new w _) (by decide) (by decide)
      have k0 := cell_of_row w2 w.heap.size 0 _ 31 _ hblk
      have k1 := cell_of_row w2 w.heap.size 1 _ 31 _ hblk
      have kf := fun j => frozen_of_row w2 w.heap.size j _ 31 hblk
      have HRD : Hid (Rd ((w2.setCell ⟨w.heap.size, 0, none⟩ (.string v)).setCell ⟨w.heap.size, 1, none⟩ (.string (s.extract (ci s + 1) s.size))) base r ov dsp dv ds' mp') :=
        (hrd.setOther hblk (by decide) (by decide) _).setOther (heap_setCell_same w2 _ 0 _ 31 _ hblk) (by decide) (by decide) _
      have HFR : Hid (Fr base w ((w2.setCell ⟨w.heap.size, 0, none⟩ (.string v)).setCell ⟨w.heap.size, 1, none⟩ (.string (s.extract (ci s + 1) s.size)))) :=
        (((((Fr.refl _ _).alloc HBS.out _).drewN q).trans hfr).setNew (Nat.le_refl _) HBS.out _).setNew (Nat.le_refl _) HBS.out _
      clear hrd hfr hblk
      go_wp2_with fail
      exact bodyPost_ret (v := .tuple #[.agg #[.string v, .string (loc s)], .bool o]) (by simp [results, Try.results44, go_sem, k0, k1]; rfl) rfl ⟨rfl, HRD.out, HFR.out⟩
  rcases hx1 with hx1 | hx1
  · exact key (Or.inl hx1)
  · exact key (Or.inr (ne_xmlns hx1))

set_option maxHeartbeats 400000 in
set_option maxRecDepth 100000 in
/-- The shim, the method's answer a premise: the world below. -/
theorem zzResolve_plain (a b : ByteArray) (o : Bool) (s : ByteArray) (attr : Bool)
    (hres : Calls Try.prog 44 #[.pointer (some ⟨r, 0, none⟩), .string s, .bool attr] (w.alloc (.cells #[.string ⟨#[]⟩, .string ⟨#[]⟩] 31)) fun e w' =>
      e = .returned (.tuple #[.agg #[.string a, .string b], .bool o]) ∧ Fr (w.alloc (.cells #[.string ⟨#[]⟩, .string ⟨#[]⟩] 31)).heap.size (w.alloc (.cells #[.string ⟨#[]⟩, .string ⟨#[]⟩] 31)) w') :
    Calls Try.prog 11 #[.pointer (some ⟨r, 0, none⟩), .string s, .bool attr] w fun e w' =>
      e = .returned (.tuple #[.agg #[.string a, .string b], .bool o]) ∧ Fr w.heap.size w w' := by
  go_enter Try.func11, Try.ntmps11
  go_wp2_with fail
  refine hres.mono ?_
  rintro e w2 ⟨rfl, hfr⟩
  have hblk : w2.heap[w.heap.size]? = some (.cells #[.string ⟨#[]⟩, .string ⟨#[]⟩] 31 (0, 0)) := hfr.tag _ _ _ _ (heap_alloc_new w _) (by decide) (by decide)
  have k0 := cell_of_row w2 w.heap.size 0 _ 31 _ hblk
  have k1 := cell_of_row w2 w.heap.size 1 _ 31 _ hblk
  have kf := fun j => frozen_of_row w2 w.heap.size j _ 31 hblk
  have HFR : Hid (Fr w.heap.size w ((w2.setCell ⟨w.heap.size, 0, none⟩ (.string a)).setCell ⟨w.heap.size, 1, none⟩ (.string b))) := by
    have h0 : Fr w.heap.size (w.alloc (.cells #[.string ⟨#[]⟩, .string ⟨#[]⟩] 31)) w2 := ⟨hfr.below.mono (by simp), hfr.tag⟩
    exact ((((Fr.refl _ _).alloc (Nat.le_refl _) _).trans h0).setNew (Nat.le_refl _) (Nat.le_refl _) _).setNew (Nat.le_refl _) (Nat.le_refl _) _
  clear hfr hblk hres
  go_wp2_with fail
  exact bodyPost_ret (v := .tuple #[.agg #[.string a, .string b], .bool o]) (by simp [results, Try.results11, go_sem, k0, k1]) rfl ⟨rfl, HFR.out⟩

set_option maxHeartbeats 400000 in
set_option maxRecDepth 100000 in
theorem zzResolve_rd (mp' : Option (Nat × Nat × (ByteArray → Option ByteArray) × Nat)) (ds' : List Dcl) (a b : ByteArray) (o : Bool) (s : ByteArray) (attr : Bool) (hbs : base ≤ w.heap.size)
    (hres : Calls Try.prog 44 #[.pointer (some ⟨r, 0, none⟩), .string s, .bool attr] (w.alloc (.cells #[.string ⟨#[]⟩, .string ⟨#[]⟩] 31)) fun e w' =>
      e = .returned (.tuple #[.agg #[.string a, .string b], .bool o]) ∧ Rd w' base r ov dsp dv ds' mp' ∧ Fr base (w.alloc (.cells #[.string ⟨#[]⟩, .string ⟨#[]⟩] 31)) w') :
    Calls Try.prog 11 #[.pointer (some ⟨r, 0, none⟩), .string s, .bool attr] w fun e w' =>
      e = .returned (.tuple #[.agg #[.string a, .string b], .bool o]) ∧ Rd w' base r ov dsp dv ds' mp' ∧ Fr base w w' := by
  have HBS : Hid (base ≤ w.heap.size) := hbs
  clear hbs
  go_enter Try.func11, Try.ntmps11
  go_wp2_with fail
  refine hres.mono ?_
  rintro e w2 ⟨rfl, hrd, hfr⟩
  have hblk : w2.heap[w.heap.size]? = some (.cells #[.string ⟨#[]⟩, .string ⟨#[]⟩] 31 (0, 0)) := hfr.tag _ _ _ _ (heap_alloc_new w _) (by decide) (by decide)
  have k0 := cell_of_row w2 w.heap.size 0 _ 31 _ hblk
  have k1 := cell_of_row w2 w.heap.size 1 _ 31 _ hblk
  have kf := fun j => frozen_of_row w2 w.heap.size j _ 31 hblk
  have HRD : Hid (Rd ((w2.setCell ⟨w.heap.size, 0, none⟩ (.string a)).setCell ⟨w.heap.size, 1, none⟩ (.string b)) base r ov dsp dv ds' mp') :=
    (hrd.setOther hblk (by decide) (by decide) _).setOther (heap_setCell_same w2 _ 0 _ 31 _ hblk) (by decide) (by decide) _
  have HFR : Hid (Fr base w ((w2.setCell ⟨w.heap.size, 0, none⟩ (.string a)).setCell ⟨w.heap.size, 1, none⟩ (.string b))) :=
    ((((Fr.refl _ _).alloc HBS.out _).trans hfr).setNew (Nat.le_refl _) HBS.out _).setNew (Nat.le_refl _) HBS.out _
  clear hfr hblk hres hrd
  go_wp2_with fail
  exact bodyPost_ret (v := .tuple #[.agg #[.string a, .string b], .bool o]) (by simp [results, Try.results11, go_sem, k0, k1]) rfl ⟨rfl, HRD.out, HFR.out⟩

/-! ### ZZResolve, in three contracts -/
theorem zz_fixed (mp : Option (Nat × Nat × (ByteArray → Option ByteArray) × Nat)) (s : ByteArray) (attr : Bool) (h : Rd w base r ov dsp dv ds mp) (hsz : s.size ≤ 1048576) (hnd : need s attr = false) :
    Calls Try.prog 11 #[.pointer (some ⟨r, 0, none⟩), .string s, .bool attr] w fun e w' =>
      e = .returned (.tuple #[.agg #[.string (nameOf dsp s attr).1, .string (nameOf dsp s attr).2], .bool true]) ∧ Fr w.heap.size w w' := by
  by_cases hc : ci s < s.size
  · exact zzResolve_plain w r _ _ _ s attr (resolve_fixed _ base r ov dsp dv ds mp s attr (h.alloc _) hc hsz hnd)
  · exact zzResolve_plain w r _ _ _ s attr (resolve_bare _ base r ov dsp dv ds mp s attr (h.alloc _) (by have := ci_le s; omega))

theorem pre_size (s : ByteArray) (h : s.size ≤ 1048576) : (pre s).size ≤ maxLen := by
  unfold pre maxLen
  have : (s.extract 0 (ci s)).size ≤ s.size := by rw [ByteArray.size_extract]; omega
  omega

theorem zz_map (b n : Nat) (f : ByteArray → Option ByteArray) (sz : Nat) (s : ByteArray) (attr : Bool) (h : Rd w base r ov dsp dv ds (some (b, n, f, sz))) (hsz : s.size ≤ 1048576) (hnd : need s attr = true) :
    Calls Try.prog 11 #[.pointer (some ⟨r, 0, none⟩), .string s, .bool attr] w fun e w' =>
      e = .returned (.tuple #[.agg #[.string ((f (pre s)).getD mt), .string (loc s)], .bool (f (pre s)).isSome]) ∧ Rd w' base r ov dsp dv ds (some (b, n, f, sz)) ∧ Fr base w w' := by
  refine zzResolve_rd w base r ov dsp dv _ _ _ _ _ s attr (Nat.le_trans h.hb (Nat.le_of_lt h.blk.lt)) (resolve_look _ base r ov dsp dv ds _ _ _ _ _ s attr (h.alloc _) hsz hnd (fun q => ?_))
  exact (namespaceOf_map _ base r ov dsp dv ds b n f sz (pre s) (pre_size s hsz) (((h.alloc _).alloc _).drewN q)).mono fun e w' ⟨he, hw⟩ => ⟨he, by rw [hw]; exact ((h.alloc _).alloc _).drewN q, by rw [hw]; exact Fr.refl _ _⟩

theorem zz_build (s : ByteArray) (attr : Bool) (h : Rd w base r ov dsp dv ds none) (hsz : s.size ≤ 1048576) (hnd : need s attr = true) (hn : ds.length ≤ 1048576) (hs : ∀ d ∈ ds, d.p.size ≤ maxLen ∧ d.s.size ≤ maxLen) :
    Calls Try.prog 11 #[.pointer (some ⟨r, 0, none⟩), .string s, .bool attr] w fun e w' =>
      e = .returned (.tuple #[.agg #[.string (((st ds).1 (pre s)).getD mt), .string (loc s)], .bool ((st ds).1 (pre s)).isSome]) ∧
        Rd w' base r ov dsp dv (recs ds ds.length) (some (w.heap.size + 2, ds.length, (st ds).1, (st ds).2)) ∧ Fr base w w' := by
  refine zzResolve_rd w base r ov dsp dv _ _ _ _ _ s attr (Nat.le_trans h.hb (Nat.le_of_lt h.blk.lt)) (resolve_look _ base r ov dsp dv ds _ _ _ _ _ s attr (h.alloc _) hsz hnd (fun q => ?_))
  have hc := namespaceOf_none _ base r ov dsp dv ds (pre s) (pre_size s hsz) (((h.alloc (.cells #[.string ⟨#[]⟩, .string ⟨#[]⟩] 31)).alloc (.cells #[.string ⟨#[]⟩, .string ⟨#[]⟩] 31)).drewN q) hn hs
  have e : (((w.alloc (.cells #[.string ⟨#[]⟩, .string ⟨#[]⟩] 31)).alloc (.cells #[.string ⟨#[]⟩, .string ⟨#[]⟩] 31)).drewN q).heap.size = w.heap.size + 2 := by simp
  rw [e] at hc
  exact hc
end

end Go.Proofs.Qxb6601967a
