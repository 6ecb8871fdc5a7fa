/-
  zzPushNS: the declarations that a start tag pushes.
-/
import Derived.Test.Qxb6601967aOpen
import Derived.Test.Qxb6601967aPlain
import Derived.Deep.RegionHeld3
namespace Go.Proofs.Qxb6601967a
set_option linter.unusedVariables false
set_option linter.unusedSimpArgs false
open Go.RowKit Go.Maps

/-- A declaration that came in. -/
structure Nd where
  p : ByteArray
  s : ByteArray

/-- The slice of declarations that came in, in a block below B. -/
structure In2 (w : World) (B : Nat) (p : Option Addr) (n : Nat) (ds : List Nd) : Prop where
  len : ds.length = n
  at' : 0 < n → ∃ b o, p = some ⟨b, o, none⟩ ∧ b < B ∧ ∀ i d, ds[i]? = some d →
    w.cell? ⟨b, o + i * 2, none⟩ = some (.string d.p) ∧ w.cell? ⟨b, o + i * 2 + 1, none⟩ = some (.string d.s)
  small : ∀ d ∈ ds, d.p.size ≤ maxLen ∧ d.s.size ≤ maxLen

theorem In2.below {w w' : World} {p : Option Addr} {n B : Nat} {ds : List Nd} (h : In2 w B p n ds) (hb : Below B w w') : In2 w' B p n ds := by
  refine ⟨h.len, fun hn => ?_, h.small⟩
  obtain ⟨b, o, hp, hlt, hc⟩ := h.at' hn
  refine ⟨b, o, hp, hlt, fun i d hd => ?_⟩
  obtain ⟨h0, h1⟩ := hc i d hd
  have hc := fun j => hb.cell (p := ⟨b, j, none⟩) hlt
  exact ⟨by rw [hc]; exact h0, by rw [hc]; exact h1⟩

/-- What one declaration records, and the default space behind it. -/
def recN (d : Nd) (cur : ByteArray) : Dcl := if d.p = mt then ⟨mt, d.s, cur, false⟩ else ⟨d.p, d.s, mt, false⟩
def curN (d : Nd) (cur : ByteArray) : ByteArray := if d.p = mt then d.s else cur
def dcls : List Nd → ByteArray → List Dcl
  | [], _ => []
  | d :: l, cur => recN d cur :: dcls l (curN d cur)
def endS : List Nd → ByteArray → ByteArray
  | [], cur => cur
  | d :: l, cur => endS l (curN d cur)

theorem endS_snoc (d : Nd) : ∀ (l : List Nd) (cur : ByteArray), endS (l ++ [d]) cur = curN d (endS l cur)
  | [], _ => rfl
  | _ :: l, cur => endS_snoc d l _
theorem dcls_snoc (d : Nd) : ∀ (l : List Nd) (cur : ByteArray), dcls (l ++ [d]) cur = dcls l cur ++ [recN d (endS l cur)]
  | [], _ => rfl
  | e :: l, cur => by
    show recN e cur :: dcls (l ++ [d]) (curN e cur) = _
    rw [dcls_snoc d l]; rfl
theorem dcls_length : ∀ (l : List Nd) (cur : ByteArray), (dcls l cur).length = l.length
  | [], _ => rfl
  | e :: l, cur => by
    show (dcls l _).length + 1 = l.length + 1
    rw [dcls_length l]
theorem nd_take (ds : List Nd) (k : Nat) (d : Nd) (h : ds[k]? = some d) : ds.take (k + 1) = ds.take k ++ [d] := by
  obtain ⟨hk, e⟩ := List.getElem?_eq_some_iff.1 h
  rw [List.take_succ_eq_append_getElem hk, e]

section
variable (w : World) (base r : Nat) (ov : Value) (s : ByteArray) (dv : Value) (ds : List Dcl) (mp : Option (Nat × Nat × (ByteArray → Option ByteArray) × Nat))

set_option maxHeartbeats 2000000 in
set_option maxRecDepth 100000 in
theorem pushNS_any (p : Option Addr) (n c : Nat) (nds : List Nd) (cur : ByteArray) (h : Rd w base r ov s dv ds mp) (hin : In2 w base p n nds) (hn : ds.length + n ≤ 1048576) :
    Calls Try.prog 41 #[.pointer (some ⟨r, 0, none⟩), .slice p n c, .string cur] w fun e w' => e = .returned (.string (endS nds cur)) ∧
      (∃ dv', Rd w' base r ov s dv' (ds ++ dcls nds cur) mp) ∧ Fr base w w' := by
  have HIN : Hid (In2 w base p n nds) := hin
  have HN : Hid (ds.length + n ≤ 1048576) := hn
  have HRD : Hid (Rd w base r ov s dv ds mp) := h
  have hn2 : n ≤ 1048576 := by omega
  clear hin h hn
  go_enter Try.func41, Try.ntmps41
  go_wp2_with fail
  go_loopw [2, 7] (fun cv i wr => ∃ k : Nat, k ≤ n ∧ i = .int .i64 k ∧ cv = .string (endS (nds.take k) cur) ∧ (∃ dv', Rd wr base r ov s dv' (ds ++ dcls (nds.take k) cur) mp) ∧ Fr base w wr) (fun _ i _ => n - (intOf i).toNat)
  case atStart => exact ⟨0, Nat.zero_le _, rfl, rfl, ⟨dv, by simpa [dcls] using HRD.out⟩, Fr.refl _ _⟩
  case round =>
    obtain ⟨k, hk, rfl, rfl, ⟨dvk, hrd⟩, hfr⟩ := hrel
    by_cases hlt : k < n
    · have hlen := HIN.out.len
      obtain ⟨d, hd⟩ : ∃ d, nds[k]? = some d := ⟨_, List.getElem?_eq_getElem (by omega)⟩
      obtain ⟨b, o, hpe, hblt, hc⟩ := (HIN.out.below hfr.below).at' (by omega)
      obtain ⟨c0, c1⟩ := hc k d hd
      have hki : (k : Int) < (n : Int) := by omega
      have hlk : (ds ++ dcls (nds.take k) cur).length ≤ 1048576 := by
        have := HN.out
        rw [List.length_append, dcls_length, List.length_take]; omega
      have htk := nd_take nds k d hd
      have HFR : Hid (Fr base w wr) := hfr
      have HBL : Hid (b < base) := hblt
      cases hpe
      by_cases hp : d.p = mt
      · have hem := isEmpty_mt hp
        have HE : Hid (endS (nds.take (k + 1)) cur = d.s) := by show _ = _; rw [htk, endS_snoc]; simp [curN, hp]
        have HD : Hid (dcls (nds.take (k + 1)) cur = dcls (nds.take k) cur ++ [⟨mt, d.s, endS (nds.take k) cur, false⟩]) := by show _ = _; rw [htk, dcls_snoc]; simp [recN, hp]
        have hpd := pushDecl_any wr base r ov s dvk _ mp mt d.s (endS (nds.take k) cur) false hrd hlk
        rw [List.append_assoc, ← HD.out] at hpd
        simp only [mt] at hpd
        generalize endS (nds.take k) cur = cu at *
        clear hp hc hrd hfr hlen hlk htk hd hblt
        go_wp2_with fail
        refine hpd.mono ?_
        rintro e w3 ⟨rfl, hrd3, hfr3⟩
        have HR3 : Hid (∃ dv', Rd w3 base r ov s dv' (ds ++ dcls (nds.take (k + 1)) cur) mp) := hrd3
        have HF3 : Hid (Fr base w w3) := HFR.out.trans hfr3
        have g1 := (hfr3.below.cell (p := ⟨b, o + k * 2 + 1, none⟩) HBL.out).trans c1
        clear hrd3 hfr3 hpd c0 c1 HFR
        go_wp2_with fail
        go_roundw
        case rel => exact ⟨k + 1, by omega, by go_num, by rw [HE.out], HR3.out, HF3.out⟩
        case measure => simp [intOf]; omega
      · have hem := isEmpty_ne hp
        have HE : Hid (endS (nds.take (k + 1)) cur = endS (nds.take k) cur) := by show _ = _; rw [htk, endS_snoc]; simp [curN, hp]
        have HD : Hid (dcls (nds.take (k + 1)) cur = dcls (nds.take k) cur ++ [⟨d.p, d.s, mt, false⟩]) := by show _ = _; rw [htk, dcls_snoc]; simp [recN, hp]
        have hpd : Calls Try.prog 10 #[.pointer (some ⟨r, 0, none⟩), .string d.p, .string d.s, .string mt, .bool false] wr.drew _ := pushDecl_any wr.drew base r ov s dvk _ mp d.p d.s mt false (hrd.drewN 1) hlk
        rw [List.append_assoc, ← HD.out] at hpd
        simp only [mt] at hpd
        clear hp hc hrd hfr hlen hlk htk hd hblt
        go_wp2_with fail
        go_region_held3 (fun w' => w'.cell? ⟨b, o + k * 2, none⟩ = some (.string d.p) ∧ w'.cell? ⟨b, o + k * 2 + 1, none⟩ = some (.string d.s)) (go_keep) ((go_at_call 10; refine hpd.mono ?_; rintro e w3 ⟨rfl, hrd3, hfr3⟩; have g0 := (hfr3.below.cell (p := ⟨b, o + k * 2, none⟩) HBL.out).trans c0; have g1 := (hfr3.below.cell (p := ⟨b, o + k * 2 + 1, none⟩) HBL.out).trans c1))
        rename_i w3 hrd3 hfr3 g0 g1
        have HR3 : Hid (∃ dv', Rd w3 base r ov s dv' (ds ++ dcls (nds.take (k + 1)) cur) mp) := hrd3
        have HF3 : Hid (Fr base w w3) := (HFR.out.drewN 1).trans hfr3
        clear hrd3 hfr3 hpd g0 g1 c0 c1 HFR
        go_wp2_with fail
        go_roundw
        case rel => exact ⟨k + 1, by omega, by go_num, by rw [HE.out], HR3.out, HF3.out⟩
        case measure => simp [intOf]; omega
    · obtain rfl : k = n := by omega
      have htl : nds.take k = nds := List.take_of_length_le (Nat.le_of_eq HIN.out.len)
      rw [htl] at hrd
      have HR3 : Hid (∃ dv', Rd wr base r ov s dv' (ds ++ dcls nds cur) mp) := ⟨dvk, hrd⟩
      have HF3 : Hid (Fr base w wr) := hfr
      rw [htl]
      clear hrd hfr htl
      go_wp2_with fail
      go_ret
      exact ⟨rfl, HR3.out, HF3.out⟩
end

end Go.Proofs.Qxb6601967a
