/-
  close: the walk back over the inner declarations.
-/
import Derived.Test.Qxb6601967aUn
namespace Go.Proofs.Qxb6601967a
set_option linter.unusedVariables false
set_option linter.unusedSimpArgs false
open Go.RowKit Go.Maps

theorem row_take {w : World} {base e size n cap m : Nat} {p : Option Addr} {xs : List Value} (h : w.ownsRow base e size (.slice p n cap) n xs) (hm : m ≤ n) : w.ownsRow base e size (.slice p m cap) m (xs.take (m * size)) := by
  have hl := h.1
  have hmul : m * size ≤ n * size := Nat.mul_le_mul_right size hm
  refine ⟨by rw [List.length_take, hl]; exact Nat.min_eq_left hmul, ?_⟩
  rcases h.2 with ⟨h1, h2⟩ | ⟨g, cap', cur, h1, h2, h3, h4, h5, h6, h7⟩
  · subst h2
    obtain rfl : m = 0 := by omega
    simp only [Value.slice.injEq] at h1
    obtain ⟨rfl, _, rfl⟩ := h1
    exact Or.inl ⟨rfl, rfl⟩
  · simp only [Value.slice.injEq] at h1
    obtain ⟨rfl, _, rfl⟩ := h1
    refine Or.inr ⟨g, cap, cur, rfl, h2, h3, Nat.le_trans hm h4, h5, h6, ?_⟩
    rw [← h7, List.take_take, Nat.min_eq_left hmul]

theorem flat_take : ∀ (ds : List Dcl) (m : Nat), (flat ds).take (m * 4) = flat (ds.take m)
  | [], m => by simp [flat]
  | d :: ds, 0 => by simp [flat]
  | d :: ds, m + 1 => by
    have ih := flat_take ds m
    rw [flat_cons, show (m + 1) * 4 = m * 4 + 1 + 1 + 1 + 1 by omega]
    simp [flat_cons, ih]

section
variable (w : World) (base r : Nat) (ov : Value) (s : ByteArray) (dv : Value) (ds : List Dcl)

set_option maxHeartbeats 2000000 in
set_option maxRecDepth 100000 in
theorem close_none (e1 e2 m : Nat) (h : Rd w base r ov s dv ds none) (ho : w.ownsRow base 95 5 ov 2 (oel e1 0 ++ oel e2 m)) (hm : m ≤ ds.length) (hn : ds.length ≤ 1048576) (hpos : 0 < ds.length) :
    Calls Try.prog 45 #[.pointer (some ⟨r, 0, none⟩)] w fun e w' => e = .returned (.tuple #[]) ∧
      (∃ ov' dv', Rd w' base r ov' (unS (ds.drop m) s) dv' (ds.take m) none ∧ w'.ownsRow base 95 5 ov' 1 (oel e1 0)) ∧ Fr base w w' := by
  have hq : ∀ (w : World) (r : Option Nat), (binOp .eql 68 (.map r) (.map none)).run Try.prog w = .ok (.bool r.isNone) w := fun w r => run_eql_map_nil w _ _ _ r Try.underlying68
  obtain ⟨go, capo, hov⟩ : ∃ g cap, ov = .slice (some ⟨g, 0, none⟩) 2 cap := by
    rcases ho.2 with ⟨h1, h2⟩ | ⟨g, cap, cur, h1, _⟩
    · omega
    · exact ⟨_, _, h1⟩
  obtain ⟨g, cap, hv, hgb, _⟩ := h.slot hpos
  have h7 := h.blk.c7
  have h8 := h.blk.c8
  have h11 := h.blk.c11
  rw [hov] at h7
  rw [hv] at h11
  have hO := ho
  rw [hov] at hO
  have o5 : w.cell? ⟨go, 5, none⟩ = some (.pointer (some ⟨e2, 0, none⟩)) := hO.cellAt 5 (by decide)
  have o6 : w.cell? ⟨go, 6, none⟩ = some (.string ⟨#[]⟩) := hO.cellAt 6 (by decide)
  have o7 : w.cell? ⟨go, 7, none⟩ = some (.int .i64 0) := hO.cellAt 7 (by decide)
  have o8 : w.cell? ⟨go, 8, none⟩ = some (.int .i64 m) := hO.cellAt 8 (by decide)
  have o9 : w.cell? ⟨go, 9, none⟩ = some (.bool false) := hO.cellAt 9 (by decide)
  have HR : Hid (Rd w base r ov s dv ds none) := h
  have HO : Hid (w.ownsRow base 95 5 ov 2 (oel e1 0 ++ oel e2 m)) := ho
  have HV : Hid (dv = .slice (some ⟨g, 0, none⟩) ds.length cap) := hv
  have HOV : Hid (ov = .slice (some ⟨go, 0, none⟩) 2 capo) := hov
  have d7 : ∀ o, (w.alloc o).cell? ⟨r, 7, none⟩ = some (.slice (some ⟨go, 0, none⟩) 2 capo) := fun o => by rw [← HOV.out]; exact ((HR.out.alloc o).blk.c7)
  have d8 : ∀ o, (w.alloc o).cell? ⟨r, 8, none⟩ = some (.slice none 0 0) := fun o => ((HR.out.alloc o).blk.c8)
  have d11 : ∀ o, (w.alloc o).cell? ⟨r, 11, none⟩ = some (.slice (some ⟨g, 0, none⟩) ds.length cap) := fun o => by rw [← HV.out]; exact ((HR.out.alloc o).blk.c11)
  have hm' : (m : Int) ≤ (ds.length : Int) := by omega
  clear h ho hv hov hO
  go_enter Try.func45, Try.ntmps45
  go_wp2_with fail
  go_quiet (fail)
  go_wp2_with fail
  go_loopw [6] (fun iv wr => ∃ j : Nat, m ≤ j ∧ j ≤ ds.length ∧ iv = .int .i64 ((j : Int) - 1) ∧ Rd wr base r ov (unS (ds.drop j) s) dv ds none ∧ Fr base w wr ∧ wr.heap[w.heap.size]? = some (.cells #[.pointer (some ⟨e2, 0, none⟩), .string ⟨#[]⟩, .int .i64 0, .int .i64 m, .bool false] 95 (0, 0))) (fun iv _ => (intOf iv + 1).toNat)
  case atStart =>
    have hA := (HR.out.alloc (.cells #[.pointer (some ⟨e2, 0, none⟩), .string ⟨#[]⟩, .int .i64 0, .int .i64 m, .bool false] 95)).drewN nq
    refine ⟨ds.length, hm, Nat.le_refl _, by go_num, ?_, ((Fr.refl _ _).alloc (Nat.le_trans HR.out.hb (Nat.le_of_lt HR.out.blk.lt)) _).drewN nq, heap_alloc_new w _⟩
    rw [List.drop_length]
    exact hA
  case round =>
    obtain ⟨j, hmj, hjn, rfl, hrd, hfr, htop⟩ := hrel
    clear d7 d8 d11 h7 h8 h11 o5 o6 o7 o8 o9
    have t3 : wr.cell? ⟨w.heap.size, 3, none⟩ = some (.int .i64 m) := by rw [cell_of_row wr _ 3 _ 95 _ htop]; rfl
    have c11 := hrd.blk.c11
    have c12 := hrd.blk.c12
    rw [HV.out] at c11
    simp only [Option.map_none] at c12
    by_cases hlt : m < j
    · obtain ⟨i, rfl⟩ : ∃ i, j = i + 1 := ⟨j - 1, by omega⟩
      have hji : ((i + 1 : Nat) : Int) - 1 = (i : Int) := by omega
      rw [hji]
      obtain ⟨d, hd⟩ : ∃ d, ds[i]? = some d := ⟨_, List.getElem?_eq_getElem (by omega)⟩
      obtain ⟨k0, k1, k2, k3⟩ := hrd.at HV.out hd
      have hdr : ds.drop i = d :: ds.drop (i + 1) := by
        obtain ⟨hi', e⟩ := List.getElem?_eq_some_iff.1 hd
        rw [List.drop_eq_getElem_cons hi', e]
      have hil : (i : Int) < (ds.length : Int) := by omega
      have him : (m : Int) ≤ (i : Int) := by omega
      have hrdA := hrd.alloc (.cells #[.string d.p, .string d.s, .string d.r, .bool d.b] 102)
      have hfrA := hfr.alloc (Nat.le_trans hrd.hb (Nat.le_of_lt hrd.blk.lt)) (.cells #[.string d.p, .string d.s, .string d.r, .bool d.b] 102)
      have htA : (wr.alloc (.cells #[.string d.p, .string d.s, .string d.r, .bool d.b] 102)).heap[w.heap.size]? = some (.cells #[.pointer (some ⟨e2, 0, none⟩), .string ⟨#[]⟩, .int .i64 0, .int .i64 m, .bool false] 95 (0, 0)) := by
        rw [Below.heap_alloc wr _ _ (Array.getElem?_eq_some_iff.1 htop).1]; exact htop
      by_cases hp : d.p = mt
      · have hem := isEmpty_mt hp
        have a10 := hrdA.blk.c10
        have az := hrdA.blk.fz 10
        have HREL : Hid (Rd ((wr.alloc (.cells #[.string d.p, .string d.s, .string d.r, .bool d.b] 102)).setCell ⟨r, 10, none⟩ (.string d.r)) base r ov (unS (ds.drop i) s) dv ds none) := by
          obtain ⟨arr, ha⟩ := hrdA.blk.tag
          have e : unS (ds.drop i) s = d.r := by rw [hdr]; simp [unS, hp]
          rw [e]
          exact ⟨hrdA.blk.set10 d.r, row_set hrdA.row hrdA.blk.notRow _, hrdA.hb, fun b n f sz e => by cases e⟩
        have HF : Hid (Fr base w ((wr.alloc (.cells #[.string d.p, .string d.s, .string d.r, .bool d.b] 102)).setCell ⟨r, 10, none⟩ (.string d.r))) := by
          obtain ⟨arr, ha⟩ := hrdA.blk.tag
          exact hfrA.setCell ha (Or.inr rfl) hrdA.hb _
        have HT : Hid (((wr.alloc (.cells #[.string d.p, .string d.s, .string d.r, .bool d.b] 102)).setCell ⟨r, 10, none⟩ (.string d.r)).heap[w.heap.size]? = some (.cells #[.pointer (some ⟨e2, 0, none⟩), .string ⟨#[]⟩, .int .i64 0, .int .i64 m, .bool false] 95 (0, 0))) := by
          obtain ⟨arr, ha⟩ := hrdA.blk.tag
          show _ = _
          rw [Below.heap_setCell _ _ _ _ (fun e => by simp only at e; rw [e, ha] at htA; simp at htA)]
          exact htA
        clear hp hdr hrd hfr htop hrdA hfrA htA hd
        go_wp2_with fail
        go_roundw
        case rel => exact ⟨i, by omega, by omega, by go_num, HREL.out, HF.out, HT.out⟩
        case measure => simp [intOf]
      · have hem := isEmpty_ne hp
        have a12 := hrdA.blk.c12
        simp only [Option.map_none] at a12
        have HREL : Hid (Rd (wr.alloc (.cells #[.string d.p, .string d.s, .string d.r, .bool d.b] 102)) base r ov (unS (ds.drop i) s) dv ds none) := by
          have e : unS (ds.drop i) s = unS (ds.drop (i + 1)) s := by rw [hdr]; simp [unS, hp]
          rw [e]
          exact hrdA
        have HF : Hid (Fr base w (wr.alloc (.cells #[.string d.p, .string d.s, .string d.r, .bool d.b] 102))) := hfrA
        have HT : Hid ((wr.alloc (.cells #[.string d.p, .string d.s, .string d.r, .bool d.b] 102)).heap[w.heap.size]? = some (.cells #[.pointer (some ⟨e2, 0, none⟩), .string ⟨#[]⟩, .int .i64 0, .int .i64 m, .bool false] 95 (0, 0))) := htA
        clear hp hdr hrd hfr htop hrdA hfrA htA hd
        go_wp2_with fail
        go_roundw
        case rel => exact ⟨i, by omega, by omega, by go_num, HREL.out, HF.out, HT.out⟩
        case measure => simp [intOf]
    · obtain rfl : j = m := by omega
      have hex : (j : Int) - 1 < (j : Int) := by omega
      have hrow := hrd.row
      rw [HV.out] at hrow
      have hjc : (j : Int) ≤ (cap : Int) := by
        rcases hrow.2 with ⟨h1, _⟩ | ⟨g', cap', cur, h1, _, _, h4, _⟩
        · simp at h1
        · simp only [Value.slice.injEq] at h1
          obtain ⟨_, _, rfl⟩ := h1
          omega
      have hoc : (1 : Int) ≤ (capo : Int) := by
        have hO := HO.out
        rw [HOV.out] at hO
        rcases hO.2 with ⟨h1, _⟩ | ⟨g', cap', cur, h1, _, _, h4, _⟩
        · simp at h1
        · simp only [Value.slice.injEq] at h1
          obtain ⟨_, _, rfl⟩ := h1
          omega
      have z11 := hrd.blk.fz 11
      have hrdD := hrd.drewN 1
      have hl : (ds.take j).length = j := by simp; omega
      have hrd2 : Rd (wr.drew.setCell ⟨r, 11, none⟩ (.slice (some ⟨g, 0, none⟩) j cap)) base r ov (unS (ds.drop j) s) (.slice (some ⟨g, 0, none⟩) j cap) (ds.take j) none := by
        refine ⟨hrdD.blk.set11 _, ?_, hrd.hb, fun b n f sz e => by cases e⟩
        rw [hl, ← flat_take]
        exact row_set (row_take (w := wr.drewN 1) (hrow) hjn) hrdD.blk.notRow _
      have hfr2 : Fr base w (wr.drew.setCell ⟨r, 11, none⟩ (.slice (some ⟨g, 0, none⟩) j cap)) := by
        obtain ⟨arr, ha⟩ := hrdD.blk.tag
        exact (hfr.drewN 1).setCell ha (Or.inr rfl) hrd.hb _
      have hcm : wr.drew.setCell ⟨r, 11, none⟩ (.slice (some ⟨g, 0, none⟩) j cap) = (wr.setCell ⟨r, 11, none⟩ (.slice (some ⟨g, 0, none⟩) j cap)).drew := rfl
      rw [hcm] at hrd2 hfr2
      generalize hW2 : (wr.setCell ⟨r, 11, none⟩ (.slice (some ⟨g, 0, none⟩) j cap)).drew = W2 at hrd2 hfr2
      have y7 := hrd2.blk.c7
      have z7 := hrd2.blk.fz 7
      rw [HOV.out] at y7
      have HREL : Hid (Rd (W2.setCell ⟨r, 7, none⟩ (.slice (some ⟨go, 0, none⟩) 1 capo)) base r (.slice (some ⟨go, 0, none⟩) 1 capo) (unS (ds.drop j) s) (.slice (some ⟨g, 0, none⟩) j cap) (ds.take j) none) :=
        ⟨hrd2.blk.set7 _, row_set hrd2.row hrd2.blk.notRow _, hrd2.hb, fun b n f sz e => by cases e⟩
      have HF : Hid (Fr base w (W2.setCell ⟨r, 7, none⟩ (.slice (some ⟨go, 0, none⟩) 1 capo))) := by
        obtain ⟨arr, ha⟩ := hrd2.blk.tag
        exact hfr2.setCell ha (Or.inr rfl) hrd2.hb _
      have HOO : Hid ((W2.setCell ⟨r, 7, none⟩ (.slice (some ⟨go, 0, none⟩) 1 capo)).ownsRow base 95 5 (.slice (some ⟨go, 0, none⟩) 1 capo) 1 (oel e1 0)) := by
        have hO := orow_fr HO.out HF.out
        rw [HOV.out] at hO
        have := row_take hO (m := 1) (by decide)
        exact this
      have HW2 : Hid ((wr.setCell ⟨r, 11, none⟩ (.slice (some ⟨g, 0, none⟩) j cap)).drew = W2) := hW2
      clear hcm hrow hrdD hrd2 hfr2 hW2 hrd hfr htop hl
      go_wp2_with fail
      go_region
      rw [HW2.out]
      clear c11 c12 t3 z11
      go_wp2_with fail
      go_end0
      exact ⟨rfl, ⟨_, _, HREL.out, HOO.out⟩, HF.out⟩
end

end Go.Proofs.Qxb6601967a
