/-
  namespaceOf: with the map and without.
-/
import Derived.Test.Qxb6601967aOps
import Derived.Test.Qxb6601967aPlain
namespace Go.Proofs.Qxb6601967a
set_option linter.unusedVariables false
set_option linter.unusedSimpArgs false
open Go.RowKit Go.Maps

section
variable (w : World) (base r : Nat) (ov : Value) (s : ByteArray) (dv : Value) (ds : List Dcl)

set_option maxHeartbeats 400000 in
set_option maxRecDepth 100000 in
theorem namespaceOf_map (b n : Nat) (f : ByteArray → Option ByteArray) (sz : Nat) (k : ByteArray) (hk : k.size ≤ maxLen) (h : Rd w base r ov s dv ds (some (b, n, f, sz))) :
    Calls Try.prog 50 #[.pointer (some ⟨r, 0, none⟩), .string k] w fun e w' => e = .returned (.tuple #[.string ((f k).getD mt), .bool (f k).isSome]) ∧ w' = w := by
  have h12 := h.blk.c12
  have hl := (h.mok b n f sz rfl).2.look hk
  have hq : ∀ (w : World) (r : Option Nat), (binOp .eql 68 (.map r) (.map none)).run Try.prog w = .ok (.bool r.isNone) w := fun w r => run_eql_map_nil w _ _ _ r Try.underlying68
  simp only [Option.map_some] at h12
  clear h
  have hmt : (⟨#[]⟩ : ByteArray) = mt := rfl
  rw [hmt] at hl
  clear hmt
  generalize (f k).getD mt = v at *
  generalize (f k).isSome = o at *
  go_enter Try.func50, Try.ntmps50
  go_wp2
  go_ret2
  exact ⟨rfl, rfl⟩

set_option maxHeartbeats 1000000 in
set_option maxRecDepth 100000 in
theorem namespaceOf_build (key : ByteArray) (hkey : key.size ≤ maxLen) (h : Rd w base r ov s dv ds none) (hn : ds.length ≤ 1048576) (hpos : 0 < ds.length) (hs : ∀ d ∈ ds, d.p.size ≤ maxLen ∧ d.s.size ≤ maxLen) :
    Calls Try.prog 50 #[.pointer (some ⟨r, 0, none⟩), .string key] w fun e w' => e = .returned (.tuple #[.string (((st ds).1 key).getD mt), .bool ((st ds).1 key).isSome]) ∧
      Rd w' base r ov s dv (recs ds ds.length) (some (w.heap.size, ds.length, (st ds).1, (st ds).2)) ∧ Fr base w w' := by
  have hq : ∀ (w : World) (r : Option Nat), (binOp .eql 68 (.map r) (.map none)).run Try.prog w = .ok (.bool r.isNone) w := fun w r => run_eql_map_nil w _ _ _ r Try.underlying68
  have hmm := @run_makeMap Try.prog
  have h12 := h.blk.c12
  have h11 := h.blk.c11
  have hfz := h.blk.fz 12
  simp only [Option.map_none] at h12
  obtain ⟨g, cap, hv, hgb, _⟩ := h.slot hpos
  rw [hv] at h11
  have HV : Hid (dv = .slice (some ⟨g, 0, none⟩) ds.length cap) := hv
  have HR : Hid (Rd w base r ov s dv ds none) := h
  clear h hv
  have hd12 : ∀ o, (w.alloc o).cell? ⟨r, 12, none⟩ = some (.map none) := fun o => ((HR.out.alloc o).blk.c12)
  have hdf : ∀ o, (w.alloc o).frozen? ⟨r, 12, none⟩ = false := fun o => ((HR.out.alloc o).blk.fz 12)
  have hd11 : ∀ o, (w.alloc o).cell? ⟨r, 11, none⟩ = some (.slice (some ⟨g, 0, none⟩) ds.length cap) := fun o => by rw [← HV.out]; exact ((HR.out.alloc o).blk.c11)
  go_enter Try.func50, Try.ntmps50
  go_wp2
  go_loopw [6, 7, 24] (fun _ _ i wr => ∃ k : Nat, k ≤ ds.length ∧ i = .int .i64 k ∧ Rd wr base r ov s dv (recs ds k) (some (w.heap.size, k, (st (ds.take k)).1, (st (ds.take k)).2)) ∧ Fr base w wr) (fun _ _ i _ => ds.length - (intOf i).toNat)
  case atStart =>
    have hR := HR.out
    have hA := hR.alloc (.map #[] 0)
    obtain ⟨arr, ha⟩ := hA.blk.tag
    refine ⟨0, Nat.zero_le _, rfl, ⟨hA.blk.set12 _, row_set hA.row hA.blk.notRow _, hR.hb, ?_⟩, ?_⟩
    · intro b nn f sz e
      simp only [Option.some.injEq, Prod.mk.injEq] at e
      obtain ⟨rfl, rfl, rfl, rfl⟩ := e
      exact ⟨Nat.le_trans hR.hb (Nat.le_of_lt hR.blk.lt), map_set (MapIs.made w) ha _⟩
    · exact ((Fr.refl _ _).alloc (Nat.le_trans hR.hb (Nat.le_of_lt hR.blk.lt)) _).setCell ha (Or.inr rfl) hR.hb _
  case round =>
    obtain ⟨k, hk, rfl, hrd, hfr⟩ := hrel
    clear hd12 hdf hd11 h12 h11 hfz
    by_cases hlt : k < ds.length
    · obtain ⟨d, hd⟩ : ∃ d, ds[k]? = some d := ⟨_, List.getElem?_eq_getElem hlt⟩
      have hvl : dv = .slice (some ⟨g, 0, none⟩) (recs ds k).length cap := by rw [recs_length]; exact HV.out
      have c12 := hrd.blk.c12
      have c11 := hrd.blk.c11
      rw [HV.out] at c11
      simp only [Option.map_some] at c12
      obtain ⟨c0, c1, c2, c3⟩ := hrd.at hvl (recs_at ds k d hd)
      have f2 := hrd.fz hvl (k * 4 + 2)
      have f3 := hrd.fz hvl (k * 4 + 3)
      obtain ⟨hsp, hss⟩ := hs d (List.mem_of_getElem? hd)
      by_cases hp : d.p = mt
      · have hsk := recs_skip ds k d hd hp
        have HREL : Hid (Rd wr base r ov s dv (recs ds (k + 1)) (some (w.heap.size, k + 1, (st (ds.take (k + 1))).1, (st (ds.take (k + 1))).2))) := by
          rw [hsk.1, hsk.2]
          refine ⟨hrd.blk, hrd.row, hrd.hb, fun b nn f sz e => ?_⟩
          simp only [Option.some.injEq, Prod.mk.injEq] at e
          obtain ⟨rfl, rfl, rfl, rfl⟩ := e
          obtain ⟨h1, h2⟩ := hrd.mok _ _ _ _ rfl
          exact ⟨h1, h2.mono (Nat.le_succ k)⟩
        have hpe := isEmpty_mt hp
        clear hsk hrd hp
        go_wp2
        go_roundw
        case rel => exact ⟨k + 1, by omega, by go_num, HREL.out, hfr⟩
        case measure => simp [intOf]; omega
      · have hpe := isEmpty_ne hp
        have hl := ((hrd.drewN 1).mok _ _ _ _ rfl).2.look hsp
        generalize hfv : ((st (ds.take k)).1 d.p).getD ⟨#[]⟩ = fv at hl
        generalize hfo : ((st (ds.take k)).1 d.p).isSome = fo at hl
        have hl' : Sem.run Try.prog (Instr.lookup 68 (.map (some w.heap.size)) (.string d.p) true) wr.drew = .ok (.tuple #[.string fv, .bool fo]) wr.drew := hl
        have hset := hrd.setRec hvl (recs_at ds k d hd) fv fo
        generalize hW2 : ((wr.setCell ⟨g, k * 4 + 2, none⟩ (.string fv)).setCell ⟨g, k * 4 + 3, none⟩ (.bool fo)) = W2 at hset
        obtain ⟨hrd2, hfr2⟩ := hset
        obtain ⟨w3, hrun3, hrd3, hfr3⟩ := (hrd2.drewN 2).mapStore (by unfold maxLen; omega) hsp hss
        have HREL : Hid (Rd w3 base r ov s dv (recs ds (k + 1)) (some (w.heap.size, k + 1, (st (ds.take (k + 1))).1, (st (ds.take (k + 1))).2))) := by
          obtain ⟨e1, e2, e3⟩ := recs_take ds k d hd hp
          rw [e1, e2, e3, show ((st (ds.take k)).1 d.p).getD mt = fv from hfv, hfo]
          rw [hfo] at hrd3
          exact hrd3
        have HF3 : Hid (Fr base w w3) := hfr.trans ((hfr2.drewN 2).trans hfr3)
        have hrun3' : Sem.run Try.prog (Instr.mapUpdate 68 (.map (some w.heap.size)) (.string d.p) (.string d.s)) W2.drew.drew = .ok () w3 := hrun3
        have d12 := hrd2.blk.c12
        simp only [Option.map_some] at d12
        obtain ⟨d0, d1, _, _⟩ := hrd2.at (by simpa using hvl) (show ((recs ds k).set k { d with r := fv, b := fo })[k]? = some { d with r := fv, b := fo } by simp [recs_length, hlt])
        have HW2 : Hid (((wr.setCell ⟨g, k * 4 + 2, none⟩ (.string fv)).setCell ⟨g, k * 4 + 3, none⟩ (.bool fo)) = W2) := hW2
        clear hl hfv hfo hrd hfr hp hvl hrd2 hfr2 hrun3 hrd3 hfr3 hW2
        go_wp2
        go_region
        rw [HW2.out]
        clear c0 c1 c2 c3 c11 c12 f2 f3 hl' HW2
        go_wp2
        go_region
        go_wp2
        go_roundw
        case rel => exact ⟨k + 1, by omega, by go_num, HREL.out, HF3.out⟩
        case measure => simp [intOf]; omega
    · have hkn : k = ds.length := by omega
      subst hkn
      rw [List.take_length] at hrd
      have c12 := hrd.blk.c12
      simp only [Option.map_some] at c12
      have hl := (hrd.mok _ _ _ _ rfl).2.look hkey
      have HR2 : Hid (Rd wr base r ov s dv (recs ds ds.length) (some (w.heap.size, ds.length, (st ds).1, (st ds).2))) := hrd
      have HF : Hid (Fr base w wr) := hfr
      clear hrd hfr
      go_wp2
      go_ret2
      exact ⟨rfl, HR2.out, HF.out⟩
end

end Go.Proofs.Qxb6601967a
