/-
  close of a reader without declarations; ZZClose; the sizes.
-/
import Derived.Test.Qxb6601967aClose2
import Derived.Test.Qxb6601967aSizes
namespace Go.Proofs.Qxb6601967a
set_option linter.unusedVariables false
set_option linter.unusedSimpArgs false
open Go.RowKit Go.Maps

section
variable (w : World) (base r : Nat) (ov : Value) (s : ByteArray) (dv : Value)

set_option maxHeartbeats 2000000 in
set_option maxRecDepth 100000 in
theorem close_empty (mp : Option (Nat × Nat × (ByteArray → Option ByteArray) × Nat)) (e1 e2 : Nat) (h : Rd w base r ov s dv [] mp) (ho : w.ownsRow base 95 5 ov 2 (oel e1 0 ++ oel e2 0)) :
    Calls Try.prog 45 #[.pointer (some ⟨r, 0, none⟩)] w fun e w' => e = .returned (.tuple #[]) ∧
      (∃ ov' dv', Rd w' base r ov' s dv' [] mp ∧ w'.ownsRow base 95 5 ov' 1 (oel e1 0)) ∧ Fr base w w' := by
  obtain ⟨go, capo, hov⟩ : ∃ g cap, ov = .slice (some ⟨g, 0, none⟩) 2 cap := by
    rcases ho.2 with ⟨h1, h2⟩ | ⟨g, cap, cur, h1, _⟩
    · omega
    · exact ⟨_, _, h1⟩
  have hoc : (1 : Int) ≤ (capo : Int) := by
    have hO := ho
    rw [hov] at hO
    rcases hO.2 with ⟨h1, _⟩ | ⟨g', cap', cur, h1, _, _, h4, _⟩
    · simp at h1
    · simp only [Value.slice.injEq] at h1
      obtain ⟨_, _, rfl⟩ := h1
      omega
  obtain ⟨p, cap, hv⟩ := h.shape
  simp only [List.length_nil] at hv
  have h7 := h.blk.c7
  have h8 := h.blk.c8
  have h11 := h.blk.c11
  rw [hov] at h7
  rw [hv] at h11
  have hO := ho
  rw [hov] at hO
  have o5 : w.cell? ⟨go, 5, none⟩ = some (.pointer (some ⟨e2, 0, none⟩)) := hO.cellAt 5 (by decide)
  have o6 : w.cell? ⟨go, 6, none⟩ = some (.string ⟨#[]⟩) := hO.cellAt 6 (by decide)
  have o7 : w.cell? ⟨go, 7, none⟩ = some (.int .i64 0) := hO.cellAt 7 (by decide)
  have o8 : w.cell? ⟨go, 8, none⟩ = some (.int .i64 0) := hO.cellAt 8 (by decide)
  have o9 : w.cell? ⟨go, 9, none⟩ = some (.bool false) := hO.cellAt 9 (by decide)
  have HR : Hid (Rd w base r ov s dv [] mp) := h
  have HO : Hid (w.ownsRow base 95 5 ov 2 (oel e1 0 ++ oel e2 0)) := ho
  have HV : Hid (dv = .slice p 0 cap) := hv
  have HOV : Hid (ov = .slice (some ⟨go, 0, none⟩) 2 capo) := hov
  have d7 : ∀ o, (w.alloc o).cell? ⟨r, 7, none⟩ = some (.slice (some ⟨go, 0, none⟩) 2 capo) := fun o => by rw [← HOV.out]; exact ((HR.out.alloc o).blk.c7)
  have d8 : ∀ o, (w.alloc o).cell? ⟨r, 8, none⟩ = some (.slice none 0 0) := fun o => ((HR.out.alloc o).blk.c8)
  have d11 : ∀ o, (w.alloc o).cell? ⟨r, 11, none⟩ = some (.slice p 0 cap) := fun o => by rw [← HV.out]; exact ((HR.out.alloc o).blk.c11)
  clear h ho hv hov hO
  go_enter Try.func45, Try.ntmps45
  go_wp2_with fail
  go_quiet (fail)
  go_wp2_with fail
  refine wp_loop_rounds 1 ?_
  rw [rounds_succ]
  have hA := (HR.out.alloc (.cells #[.pointer (some ⟨e2, 0, none⟩), .string ⟨#[]⟩, .int .i64 0, .int .i64 0, .bool false] 95)).drewN nq
  have hFA := ((Fr.refl base w).alloc (Nat.le_trans HR.out.hb (Nat.le_of_lt HR.out.blk.lt)) (.cells #[.pointer (some ⟨e2, 0, none⟩), .string ⟨#[]⟩, .int .i64 0, .int .i64 0, .bool false] 95)).drewN nq
  have htop : ((w.alloc (.cells #[.pointer (some ⟨e2, 0, none⟩), .string ⟨#[]⟩, .int .i64 0, .int .i64 0, .bool false] 95)).drewN nq).heap[w.heap.size]? = some (.cells #[.pointer (some ⟨e2, 0, none⟩), .string ⟨#[]⟩, .int .i64 0, .int .i64 0, .bool false] 95 (0, 0)) := heap_alloc_new w _
  generalize (w.alloc (.cells #[.pointer (some ⟨e2, 0, none⟩), .string ⟨#[]⟩, .int .i64 0, .int .i64 0, .bool false] 95)).drewN nq = wr at *
  have t3 : wr.cell? ⟨w.heap.size, 3, none⟩ = some (.int .i64 0) := by rw [cell_of_row wr _ 3 _ 95 _ htop]; rfl
  have c11 := hA.blk.c11
  have z11 := hA.blk.fz 11
  rw [HV.out] at c11
  clear d7 d8 d11 h7 h8 h11 o5 o6 o7 o8 o9
  have hrow0 := hA.row
  rw [HV.out] at hrow0
  cases p with
  | none =>
    obtain rfl : cap = 0 := by
      rcases hrow0.2 with ⟨h1, _⟩ | ⟨g', cap', cur, h1, _⟩
      · simpa using h1
      · simp at h1
    clear hrow0
    have hAD := hA.drewN 1
    have hrd2 : Rd (wr.drew.setCell ⟨r, 11, none⟩ (.slice none 0 0)) base r ov s (.slice none 0 0) [] mp := by
      obtain ⟨arr, ha⟩ := hAD.blk.tag
      refine ⟨hAD.blk.set11 _, ?_, hA.hb, fun b' n' f' sz' e => ⟨(hAD.mok b' n' f' sz' e).1, map_set (hAD.mok b' n' f' sz' e).2 ha _⟩⟩
      have hrow := hAD.row
      rw [HV.out] at hrow
      exact row_set hrow hAD.blk.notRow _
    have hfr2 : Fr base w (wr.drew.setCell ⟨r, 11, none⟩ (.slice none 0 0)) := by
      obtain ⟨arr, ha⟩ := hAD.blk.tag
      exact (hFA.drewN 1).setCell ha (Or.inr rfl) hA.hb _
    have hcm : wr.drew.setCell ⟨r, 11, none⟩ (.slice none 0 0) = (wr.setCell ⟨r, 11, none⟩ (.slice none 0 0)).drew := rfl
    rw [hcm] at hrd2 hfr2
    generalize hW2 : (wr.setCell ⟨r, 11, none⟩ (.slice none 0 0)).drew = W2 at hrd2 hfr2
    have y7 := hrd2.blk.c7
    have z7 := hrd2.blk.fz 7
    rw [HOV.out] at y7
    have HREL : Hid (Rd (W2.setCell ⟨r, 7, none⟩ (.slice (some ⟨go, 0, none⟩) 1 capo)) base r (.slice (some ⟨go, 0, none⟩) 1 capo) s (.slice none 0 0) [] mp) := by
      obtain ⟨arr, ha⟩ := hrd2.blk.tag
      exact ⟨hrd2.blk.set7 _, row_set hrd2.row hrd2.blk.notRow _, hrd2.hb, fun b' n' f' sz' e => ⟨(hrd2.mok b' n' f' sz' e).1, map_set (hrd2.mok b' n' f' sz' e).2 ha _⟩⟩
    have HF : Hid (Fr base w (W2.setCell ⟨r, 7, none⟩ (.slice (some ⟨go, 0, none⟩) 1 capo))) := by
      obtain ⟨arr, ha⟩ := hrd2.blk.tag
      exact hfr2.setCell ha (Or.inr rfl) hrd2.hb _
    have HOO : Hid ((W2.setCell ⟨r, 7, none⟩ (.slice (some ⟨go, 0, none⟩) 1 capo)).ownsRow base 95 5 (.slice (some ⟨go, 0, none⟩) 1 capo) 1 (oel e1 0)) := by
      have hO := orow_fr HO.out HF.out
      rw [HOV.out] at hO
      have := row_take hO (m := 1) (by decide)
      exact this
    have HW2 : Hid ((wr.setCell ⟨r, 11, none⟩ (.slice none 0 0)).drew = W2) := hW2
    clear hcm hAD hrd2 hfr2 hW2 hA hFA htop
    go_wp2_with fail
    go_region
    rw [HW2.out]
    clear c11 t3 z11
    go_wp2_with fail
    go_end0
    exact ⟨rfl, ⟨_, _, HREL.out, HOO.out⟩, HF.out⟩
  | some a =>
    obtain ⟨g, rfl⟩ : ∃ g, a = ⟨g, 0, none⟩ := by
      rcases hrow0.2 with ⟨h1, _⟩ | ⟨g', cap', cur, h1, _⟩
      · simp at h1
      · simp only [Value.slice.injEq, Option.some.injEq] at h1
        exact ⟨g', h1.1⟩
    have hcap0 : (0 : Int) ≤ (cap : Int) := by omega
    clear hrow0
    have hAD := hA.drewN 1
    have hrd2 : Rd (wr.drew.setCell ⟨r, 11, none⟩ (.slice (some ⟨g, 0, none⟩) 0 cap)) base r ov s (.slice (some ⟨g, 0, none⟩) 0 cap) [] mp := by
      obtain ⟨arr, ha⟩ := hAD.blk.tag
      refine ⟨hAD.blk.set11 _, ?_, hA.hb, fun b' n' f' sz' e => ⟨(hAD.mok b' n' f' sz' e).1, map_set (hAD.mok b' n' f' sz' e).2 ha _⟩⟩
      have hrow := hAD.row
      rw [HV.out] at hrow
      exact row_set hrow hAD.blk.notRow _
    have hfr2 : Fr base w (wr.drew.setCell ⟨r, 11, none⟩ (.slice (some ⟨g, 0, none⟩) 0 cap)) := by
      obtain ⟨arr, ha⟩ := hAD.blk.tag
      exact (hFA.drewN 1).setCell ha (Or.inr rfl) hA.hb _
    have hcm : wr.drew.setCell ⟨r, 11, none⟩ (.slice (some ⟨g, 0, none⟩) 0 cap) = (wr.setCell ⟨r, 11, none⟩ (.slice (some ⟨g, 0, none⟩) 0 cap)).drew := rfl
    rw [hcm] at hrd2 hfr2
    generalize hW2 : (wr.setCell ⟨r, 11, none⟩ (.slice (some ⟨g, 0, none⟩) 0 cap)).drew = W2 at hrd2 hfr2
    have y7 := hrd2.blk.c7
    have z7 := hrd2.blk.fz 7
    rw [HOV.out] at y7
    have HREL : Hid (Rd (W2.setCell ⟨r, 7, none⟩ (.slice (some ⟨go, 0, none⟩) 1 capo)) base r (.slice (some ⟨go, 0, none⟩) 1 capo) s (.slice (some ⟨g, 0, none⟩) 0 cap) [] mp) := by
      obtain ⟨arr, ha⟩ := hrd2.blk.tag
      exact ⟨hrd2.blk.set7 _, row_set hrd2.row hrd2.blk.notRow _, hrd2.hb, fun b' n' f' sz' e => ⟨(hrd2.mok b' n' f' sz' e).1, map_set (hrd2.mok b' n' f' sz' e).2 ha _⟩⟩
    have HF : Hid (Fr base w (W2.setCell ⟨r, 7, none⟩ (.slice (some ⟨go, 0, none⟩) 1 capo))) := by
      obtain ⟨arr, ha⟩ := hrd2.blk.tag
      exact hfr2.setCell ha (Or.inr rfl) hrd2.hb _
    have HOO : Hid ((W2.setCell ⟨r, 7, none⟩ (.slice (some ⟨go, 0, none⟩) 1 capo)).ownsRow base 95 5 (.slice (some ⟨go, 0, none⟩) 1 capo) 1 (oel e1 0)) := by
      have hO := orow_fr HO.out HF.out
      rw [HOV.out] at hO
      have := row_take hO (m := 1) (by decide)
      exact this
    have HW2 : Hid ((wr.setCell ⟨r, 11, none⟩ (.slice (some ⟨g, 0, none⟩) 0 cap)).drew = W2) := hW2
    clear hcm hAD hrd2 hfr2 hW2 hA hFA htop
    go_wp2_with fail
    go_region
    rw [HW2.out]
    clear c11 t3 z11
    go_wp2_with fail
    go_end0
    exact ⟨rfl, ⟨_, _, HREL.out, HOO.out⟩, HF.out⟩

/-- close, whatever the declarations, where no map stands. -/
theorem close_none_any (ds : List Dcl) (e1 e2 m : Nat) (h : Rd w base r ov s dv ds none) (ho : w.ownsRow base 95 5 ov 2 (oel e1 0 ++ oel e2 m)) (hm : m ≤ ds.length) (hn : ds.length ≤ 1048576) :
    Calls Try.prog 45 #[.pointer (some ⟨r, 0, none⟩)] w fun e w' => e = .returned (.tuple #[]) ∧
      (∃ ov' dv', Rd w' base r ov' (unS (ds.drop m) s) dv' (ds.take m) none ∧ w'.ownsRow base 95 5 ov' 1 (oel e1 0)) ∧ Fr base w w' := by
  rcases Nat.eq_zero_or_pos ds.length with h0 | h0
  · obtain rfl : ds = [] := List.eq_nil_of_length_eq_zero h0
    obtain rfl : m = 0 := by simpa using hm
    exact close_empty w base r ov s dv none e1 e2 h ho
  · exact close_none w base r ov s dv ds e1 e2 m h ho hm hn h0

theorem close_map_any (ds : List Dcl) (e1 e2 m b nn sz : Nat) (f : ByteArray → Option ByteArray) (h : Rd w base r ov s dv ds (some (b, nn, f, sz))) (ho : w.ownsRow base 95 5 ov 2 (oel e1 0 ++ oel e2 m)) (hm : m ≤ ds.length) (hn : ds.length ≤ 1048576)
    (hnn : nn ≤ 1048576) (hs : ∀ d ∈ ds, d.p.size ≤ maxLen ∧ d.r.size ≤ maxLen) :
    Calls Try.prog 45 #[.pointer (some ⟨r, 0, none⟩)] w fun e w' => e = .returned (.tuple #[]) ∧
      (∃ ov' dv', Rd w' base r ov' (unS (ds.drop m) s) dv' (ds.take m) (some (b, nn + (ds.length - m), (unM (ds.drop m) (f, sz)).1, (unM (ds.drop m) (f, sz)).2)) ∧ w'.ownsRow base 95 5 ov' 1 (oel e1 0)) ∧ Fr base w w' := by
  rcases Nat.eq_zero_or_pos ds.length with h0 | h0
  · obtain rfl : ds = [] := List.eq_nil_of_length_eq_zero h0
    obtain rfl : m = 0 := by simpa using hm
    exact close_empty w base r ov s dv _ e1 e2 h ho
  · exact close_map w base r ov s dv ds e1 e2 m b nn sz f h ho hm hn h0 hnn hs

theorem zzClose_none (ds : List Dcl) (e1 e2 m : Nat) (h : Rd w base r ov s dv ds none) (ho : w.ownsRow base 95 5 ov 2 (oel e1 0 ++ oel e2 m)) (hm : m ≤ ds.length) (hn : ds.length ≤ 1048576) :
    Calls Try.prog 33 #[.pointer (some ⟨r, 0, none⟩)] w fun e w' => e = .returned (.tuple #[]) ∧
      (∃ ov' dv', Rd w' base r ov' (unS (ds.drop m) s) dv' (ds.take m) none ∧ w'.ownsRow base 95 5 ov' 1 (oel e1 0)) ∧ Fr base w w' := by
  have hcon := close_none_any w base r ov s dv ds e1 e2 m h ho hm hn
  clear h ho
  go_enter Try.func33, Try.ntmps33
  go_wp2_with fail
  refine hcon.mono ?_
  rintro e w' ⟨rfl, h1, h2⟩
  have H1 : Hid _ := h1
  have H2 : Hid _ := h2
  clear h1 h2 hcon
  go_wp2_with fail
  go_end0
  exact ⟨rfl, H1.out, H2.out⟩

theorem zzClose_map (ds : List Dcl) (e1 e2 m b nn sz : Nat) (f : ByteArray → Option ByteArray) (h : Rd w base r ov s dv ds (some (b, nn, f, sz))) (ho : w.ownsRow base 95 5 ov 2 (oel e1 0 ++ oel e2 m)) (hm : m ≤ ds.length) (hn : ds.length ≤ 1048576)
    (hnn : nn ≤ 1048576) (hs : ∀ d ∈ ds, d.p.size ≤ maxLen ∧ d.r.size ≤ maxLen) :
    Calls Try.prog 33 #[.pointer (some ⟨r, 0, none⟩)] w fun e w' => e = .returned (.tuple #[]) ∧
      (∃ ov' dv', Rd w' base r ov' (unS (ds.drop m) s) dv' (ds.take m) (some (b, nn + (ds.length - m), (unM (ds.drop m) (f, sz)).1, (unM (ds.drop m) (f, sz)).2)) ∧ w'.ownsRow base 95 5 ov' 1 (oel e1 0)) ∧ Fr base w w' := by
  have hcon := close_map_any w base r ov s dv ds e1 e2 m b nn sz f h ho hm hn hnn hs
  clear h ho hs
  go_enter Try.func33, Try.ntmps33
  go_wp2_with fail
  refine hcon.mono ?_
  rintro e w' ⟨rfl, h1, h2⟩
  have H1 : Hid _ := h1
  have H2 : Hid _ := h2
  clear h1 h2 hcon
  go_wp2_with fail
  go_end0
  exact ⟨rfl, H1.out, H2.out⟩
end

end Go.Proofs.Qxb6601967a
