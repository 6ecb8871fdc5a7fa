/-
  resolve: the case table.
-/
import Derived.Test.Qxb6601967aCut
namespace Go.Proofs.Qxb6601967a
set_option linter.unusedVariables false
set_option linter.unusedSimpArgs false
open Go.RowKit Go.Maps

def sXmlns : ByteArray := ⟨#[120, 109, 108, 110, 115]⟩
def sXml : ByteArray := ⟨#[120, 109, 108]⟩
def nsXmlns : ByteArray := ⟨#[104, 116, 116, 112, 58, 47, 47, 119, 119, 119, 46, 119, 51, 46, 111, 114, 103, 47, 50, 48, 48, 48, 47, 120, 109, 108, 110, 115, 47]⟩
def nsXml : ByteArray := ⟨#[104, 116, 116, 112, 58, 47, 47, 119, 119, 119, 46, 119, 51, 46, 111, 114, 103, 47, 88, 77, 76, 47, 49, 57, 57, 56, 47, 110, 97, 109, 101, 115, 112, 97, 99, 101]⟩

def pre (s : ByteArray) : ByteArray := s.extract 0 (ci s)
def loc (s : ByteArray) : ByteArray := s.extract (ci s + 1) s.size

/-- Is the name's prefix looked up? -/
def need (s : ByteArray) (attr : Bool) : Bool := decide (ci s < s.size) && (!(attr && decide (pre s = sXmlns)) && !decide (pre s = sXml))
/-- The name where it is not. -/
def nameOf (dsp s : ByteArray) (attr : Bool) : ByteArray × ByteArray :=
  if ci s < s.size then (if attr = true ∧ pre s = sXmlns then (nsXmlns, loc s) else (nsXml, loc s))
  else if attr = true then (if s = sXmlns then (nsXmlns, s) else (mt, s)) else (dsp, s)

theorem eq_xmlns {a : ByteArray} (h : a = sXmlns) : (a.toList == [120, 109, 108, 110, 115]) = true := by
  have := eqS_true h
  simpa [sXmlns] using this
theorem ne_xmlns {a : ByteArray} (h : a ≠ sXmlns) : (a.toList == [120, 109, 108, 110, 115]) = false := by
  have := eqS_false h
  simpa [sXmlns] using this
theorem eq_xml {a : ByteArray} (h : a = sXml) : (a.toList == [120, 109, 108]) = true := by
  have := eqS_true h
  simpa [sXml] using this
theorem ne_xml {a : ByteArray} (h : a ≠ sXml) : (a.toList == [120, 109, 108]) = false := by
  have := eqS_false h
  simpa [sXml] using this

section
variable (w : World) (base r : Nat) (ov : Value) (dsp : ByteArray) (dv : Value) (ds : List Dcl)

set_option maxHeartbeats 400000 in
set_option maxRecDepth 100000 in
theorem namespaceOf_empty (key : ByteArray) (hkey : key.size ≤ maxLen) (h : Rd w base r ov dsp dv [] none) :
    Calls Try.prog 50 #[.pointer (some ⟨r, 0, none⟩), .string key] w fun e w' => e = .returned (.tuple #[.string mt, .bool false]) ∧
      Rd w' base r ov dsp dv [] (some (w.heap.size, 0, fun _ => none, 0)) ∧ Fr base w w' := by
  have hq : ∀ (w : World) (r : Option Nat), (binOp .eql 68 (.map r) (.map none)).run Try.prog w = .ok (.bool r.isNone) w := fun w r => run_eql_map_nil w _ _ _ r Try.underlying68
  have hmm := @run_makeMap Try.prog
  have h12 := h.blk.c12
  have hfz := h.blk.fz 12
  simp only [Option.map_none] at h12
  obtain ⟨p, cap, hv⟩ := h.shape
  have HR : Hid (Rd w base r ov dsp dv [] none) := h
  have hd12 : ∀ o, (w.alloc o).cell? ⟨r, 12, none⟩ = some (.map none) := fun o => ((HR.out.alloc o).blk.c12)
  have hdf : ∀ o, (w.alloc o).frozen? ⟨r, 12, none⟩ = false := fun o => ((HR.out.alloc o).blk.fz 12)
  have hd11 : ∀ o, (w.alloc o).cell? ⟨r, 11, none⟩ = some (.slice p 0 cap) := fun o => by rw [(HR.out.alloc o).blk.c11, hv]; rfl
  have hA := h.alloc (.map #[] 0)
  obtain ⟨arr, ha⟩ := hA.blk.tag
  have HRD : Hid (Rd ((w.alloc (.map #[] 0)).setCell ⟨r, 12, none⟩ (.map (some w.heap.size))) base r ov dsp dv [] (some (w.heap.size, 0, fun _ => none, 0))) := by
    refine ⟨hA.blk.set12 _, row_set hA.row hA.blk.notRow _, h.hb, ?_⟩
    intro b nn f sz e
    simp only [Option.some.injEq, Prod.mk.injEq] at e
    obtain ⟨rfl, rfl, rfl, rfl⟩ := e
    exact ⟨Nat.le_trans h.hb (Nat.le_of_lt h.blk.lt), map_set (MapIs.made w) ha _⟩
  have HF : Hid (Fr base w ((w.alloc (.map #[] 0)).setCell ⟨r, 12, none⟩ (.map (some w.heap.size)))) :=
    ((Fr.refl _ _).alloc (Nat.le_trans h.hb (Nat.le_of_lt h.blk.lt)) _).setCell ha (Or.inr rfl) h.hb _
  have hl := (HRD.out.mok _ _ _ _ rfl).2.look hkey
  have hz12 := HRD.out.blk.c12
  simp only [Option.map_some] at hz12
  simp only [Option.getD_none, Option.isSome_none] at hl
  clear h hv hA ha
  go_enter Try.func50, Try.ntmps50
  go_wp2
  refine wp_loop_rounds 1 ?_
  rw [rounds_succ]
  go_wp2
  go_ret2
  exact ⟨rfl, HRD.out, HF.out⟩

/-- namespaceOf where there is no map yet: it is built. -/
theorem namespaceOf_none (key : ByteArray) (hkey : key.size ≤ maxLen) (h : Rd w base r ov dsp dv ds none) (hn : ds.length ≤ 1048576) (hs : ∀ d ∈ ds, d.p.size ≤ maxLen ∧ d.s.size ≤ maxLen) :
    Calls Try.prog 50 #[.pointer (some ⟨r, 0, none⟩), .string key] w fun e w' => e = .returned (.tuple #[.string (((st ds).1 key).getD mt), .bool ((st ds).1 key).isSome]) ∧
      Rd w' base r ov dsp dv (recs ds ds.length) (some (w.heap.size, ds.length, (st ds).1, (st ds).2)) ∧ Fr base w w' := by
  rcases Nat.eq_zero_or_pos ds.length with h0 | h0
  · obtain rfl : ds = [] := List.eq_nil_of_length_eq_zero h0
    exact namespaceOf_empty w base r ov dsp dv key hkey h
  · exact namespaceOf_build w base r ov dsp dv ds key hkey h hn h0 hs

set_option maxHeartbeats 800000 in
set_option maxRecDepth 100000 in
/-- The name has no colon. -/
theorem resolve_bare (mp : Option (Nat × Nat × (ByteArray → Option ByteArray) × Nat)) (s : ByteArray) (attr : Bool) (h : Rd w base r ov dsp dv ds mp) (hc : ci s = s.size) :
    Calls Try.prog 44 #[.pointer (some ⟨r, 0, none⟩), .string s, .bool attr] w fun e w' =>
      e = .returned (.tuple #[.agg #[.string (nameOf dsp s attr).1, .string (nameOf dsp s attr).2], .bool true]) ∧ Fr w.heap.size w w' := by
  have hcut := cut49_miss s (w.alloc (.cells #[.string ⟨#[]⟩, .string ⟨#[]⟩] 31)) hc
  have hd10 : ∀ o, (w.alloc o).cell? ⟨r, 10, none⟩ = some (.string dsp) := fun o => (h.alloc o).blk.c10
  have hn : ¬ ci s < s.size := by omega
  cases attr with
  | true =>
    by_cases hx : s = sXmlns
    · have e1 : nameOf dsp s true = (nsXmlns, s) := by unfold nameOf; rw [if_neg hn, if_pos rfl, if_pos hx]
      rw [e1]
      have hb := eq_xmlns hx
      clear hn hx e1 hc h
      go_enter Try.func44, Try.ntmps44
      go_wp2_with fail
      refine hcut.mono ?_
      rintro e w1 ⟨rfl, hw1⟩
      subst hw1
      go_wp2_with fail
      exact bodyPost_ret (v := .tuple #[.agg #[.string nsXmlns, .string s], .bool true]) (by simp [results, Try.results44, go_sem]; rfl) rfl ⟨rfl, (Fr.refl _ _).alloc (Nat.le_refl _) _⟩
    · have e1 : nameOf dsp s true = (mt, s) := by unfold nameOf; rw [if_neg hn, if_pos rfl, if_neg hx]
      rw [e1]
      have hb := ne_xmlns hx
      clear hn hx e1 hc h
      go_enter Try.func44, Try.ntmps44
      go_wp2_with fail
      refine hcut.mono ?_
      rintro e w1 ⟨rfl, hw1⟩
      subst hw1
      go_wp2_with fail
      exact bodyPost_ret (v := .tuple #[.agg #[.string mt, .string s], .bool true]) (by simp [results, Try.results44, go_sem]; rfl) rfl ⟨rfl, (Fr.refl _ _).alloc (Nat.le_refl _) _⟩
  | false =>
    have e1 : nameOf dsp s false = (dsp, s) := by unfold nameOf; rw [if_neg hn, if_neg (by decide)]
    rw [e1]
    clear hn e1 hc h
    go_enter Try.func44, Try.ntmps44
    go_wp2_with fail
    refine hcut.mono ?_
    rintro e w1 ⟨rfl, hw1⟩
    subst hw1
    go_wp2_with fail
    exact bodyPost_ret (v := .tuple #[.agg #[.string dsp, .string s], .bool true]) (by simp [results, Try.results44, go_sem]) rfl ⟨rfl, (Fr.refl _ _).alloc (Nat.le_refl _) _⟩

set_option maxHeartbeats 800000 in
set_option maxRecDepth 100000 in
/-- The prefix is xmlns (of an attribute) or xml. -/
theorem resolve_fixed (mp : Option (Nat × Nat × (ByteArray → Option ByteArray) × Nat)) (s : ByteArray) (attr : Bool) (h : Rd w base r ov dsp dv ds mp) (hc : ci s < s.size) (hsz : s.size ≤ 1048576) (hnd : need s attr = false) :
    Calls Try.prog 44 #[.pointer (some ⟨r, 0, none⟩), .string s, .bool attr] w fun e w' =>
      e = .returned (.tuple #[.agg #[.string (nameOf dsp s attr).1, .string (nameOf dsp s attr).2], .bool true]) ∧ Fr w.heap.size w w' := by
  have hcut := cut49_hit s (w.alloc (.cells #[.string ⟨#[]⟩, .string ⟨#[]⟩] 31)) (ci s) rfl hc hsz
  have ad : ∀ (W : World) (j : Nat) (o : Obj), (W.drewN j).alloc o = (W.alloc o).drewN j := fun _ _ _ => rfl
  have sd : ∀ (W : World) (j : Nat) (x : Addr) (v : Value), (W.drewN j).setCell x v = (W.setCell x v).drewN j := fun _ _ _ _ => rfl
  by_cases ha : attr = true ∧ pre s = sXmlns
  · have e1 : nameOf dsp s attr = (nsXmlns, loc s) := by unfold nameOf; rw [if_pos hc, if_pos ha]
    rw [e1]
    obtain ⟨rfl, hp⟩ := ha
    have hb : ((s.extract 0 (ci s)).toList == [120, 109, 108, 110, 115]) = true := eq_xmlns hp
    clear hnd hp e1 h hc
    go_enter Try.func44, Try.ntmps44
    go_wp2_with fail
    refine hcut.mono ?_
    rintro e w1 ⟨rfl, q, rfl⟩
    go_wp2_with fail
    exact bodyPost_ret (v := .tuple #[.agg #[.string nsXmlns, .string (loc s)], .bool true]) (by simp [results, Try.results44, go_sem]; exact ⟨rfl, rfl⟩) rfl ⟨rfl, ((Fr.refl _ _).alloc (Nat.le_refl _) _).drewN q⟩
  · have hx : pre s = sXml := by
      unfold need at hnd
      by_cases e : pre s = sXml
      · exact e
      · exfalso
        apply ha
        simpa [hc, e] using hnd
    have e1 : nameOf dsp s attr = (nsXml, loc s) := by unfold nameOf; rw [if_pos hc, if_neg ha]
    rw [e1]
    have hne : pre s ≠ sXmlns := by rw [hx]; decide
    have hb : ((s.extract 0 (ci s)).toList == [120, 109, 108, 110, 115]) = false := ne_xmlns hne
    have hb2 : ((s.extract 0 (ci s)).toList == [120, 109, 108]) = true := eq_xml hx
    clear hnd hx e1 h hc hne ha
    go_enter Try.func44, Try.ntmps44
    go_wp2_with fail
    refine hcut.mono ?_
    rintro e w1 ⟨rfl, q, rfl⟩
    go_wp2_with fail
    exact bodyPost_ret (v := .tuple #[.agg #[.string nsXml, .string (loc s)], .bool true]) (by simp [results, Try.results44, go_sem]; exact ⟨rfl, rfl⟩) rfl ⟨rfl, ((Fr.refl _ _).alloc (Nat.le_refl _) _).drewN q⟩
end

end Go.Proofs.Qxb6601967a
