/-
  The reader's small operations.
-/
import Derived.Test.Qxb6601967aRd
namespace Go.Proofs.Qxb6601967a
set_option linter.unusedVariables false
set_option linter.unusedSimpArgs false
open Go.RowKit Go.Maps

/-- A reader: its block r, the value in 'open', the default space, the declarations ds (their slice dv), its map. -/
structure Rd (w : World) (base r : Nat) (ov : Value) (s : ByteArray) (dv : Value) (ds : List Dcl) (mp : Option (Nat × Nat × (ByteArray → Option ByteArray) × Nat)) : Prop where
  blk : RdBlk w r ov s dv (mp.map (·.1))
  row : w.ownsRow base 102 4 dv ds.length (flat ds)
  hb : base ≤ r
  mok : ∀ b n f sz, mp = some (b, n, f, sz) → base ≤ b ∧ MapIs w b n f sz

section
variable {w : World} {base r : Nat} {ov : Value} {s : ByteArray} {dv : Value} {ds : List Dcl} {mp : Option (Nat × Nat × (ByteArray → Option ByteArray) × Nat)}

theorem Rd.shape (h : Rd w base r ov s dv ds mp) : ∃ p cap, dv = .slice p ds.length cap := by
  rcases h.row.2 with ⟨h1, h2⟩ | ⟨g, cap, cur, h1, _⟩
  · exact ⟨none, 0, by rw [h1, h2]⟩
  · exact ⟨_, _, h1⟩

theorem Rd.slot (h : Rd w base r ov s dv ds mp) (hpos : 0 < ds.length) : ∃ g cap, dv = .slice (some ⟨g, 0, none⟩) ds.length cap ∧ base ≤ g ∧ (∃ cur, w.heap[g]? = some (.cells cur 102 (0, 0))) := by
  rcases h.row.2 with ⟨h1, h2⟩ | ⟨g, cap, cur, h1, h2, h3, _⟩
  · omega
  · exact ⟨_, _, h1, h2, cur, h3⟩

theorem Rd.below {w' : World} {B : Nat} (h : Rd w base r ov s dv ds mp) (hB : Below B w w') (hs : w.heap.size ≤ B) : Rd w' base r ov s dv ds mp := by
  refine ⟨h.blk.kept (hB.block r (Nat.lt_of_lt_of_le h.blk.lt hs)), ?_, h.hb, fun b n f sz e => ?_⟩
  · refine ⟨h.row.1, ?_⟩
    rcases h.row.2 with h1 | ⟨g, cap, cur, h1, h2, h3, h4⟩
    · exact Or.inl h1
    · exact Or.inr ⟨g, cap, cur, h1, h2, by rw [hB.block g (Nat.lt_of_lt_of_le (Array.getElem?_eq_some_iff.1 h3).1 hs)]; exact h3, h4⟩
  · obtain ⟨h1, h2⟩ := h.mok b n f sz e
    obtain ⟨es, clock, h3⟩ := h2.block
    exact ⟨h1, h2.kept (hB.block b (Nat.lt_of_lt_of_le (Array.getElem?_eq_some_iff.1 h3).1 hs))⟩

theorem Rd.drewN (h : Rd w base r ov s dv ds mp) (q : Nat) : Rd (w.drewN q) base r ov s dv ds mp := h.below (B := w.heap.size) ⟨rfl, rfl, rfl, Nat.le_refl _, fun _ _ => rfl⟩ (Nat.le_refl _)
theorem Rd.alloc (h : Rd w base r ov s dv ds mp) (o : Obj) : Rd (w.alloc o) base r ov s dv ds mp := h.below (B := w.heap.size) ((Below.refl _ _).alloc (Nat.le_refl _) o) (Nat.le_refl _)

/-- The cells of declaration i. -/
theorem Rd.at (h : Rd w base r ov s dv ds mp) {g cap i : Nat} {d : Dcl} (hv : dv = .slice (some ⟨g, 0, none⟩) ds.length cap) (hd : ds[i]? = some d) :
    w.cell? ⟨g, i * 4, none⟩ = some (.string d.p) ∧ w.cell? ⟨g, i * 4 + 1, none⟩ = some (.string d.s) ∧ w.cell? ⟨g, i * 4 + 2, none⟩ = some (.string d.r) ∧ w.cell? ⟨g, i * 4 + 3, none⟩ = some (.bool d.b) := by
  have hr := h.row
  rw [hv] at hr
  have hi : i < ds.length := (List.getElem?_eq_some_iff.1 hd).1
  obtain ⟨h0, h1, h2, h3⟩ := flat_get ds i d hd
  exact ⟨by rw [hr.cellAt (i * 4) (by omega)]; exact h0, by rw [hr.cellAt _ (by omega)]; exact h1, by rw [hr.cellAt _ (by omega)]; exact h2, by rw [hr.cellAt _ (by omega)]; exact h3⟩
end

theorem Rd.fz {w : World} {base r : Nat} {ov : Value} {s : ByteArray} {dv : Value} {ds : List Dcl} {mp : Option (Nat × Nat × (ByteArray → Option ByteArray) × Nat)} (h : Rd w base r ov s dv ds mp) {g cap : Nat} (hv : dv = .slice (some ⟨g, 0, none⟩) ds.length cap) (j : Nat) : w.frozen? ⟨g, j, none⟩ = false := by
  have hr := h.row
  rw [hv] at hr
  exact hr.frozenAt j

theorem MapIs.mono {w : World} {b n n' sz : Nat} {f : ByteArray → Option ByteArray} (h : MapIs w b n f sz) (hn : n ≤ n') : MapIs w b n' f sz := by
  obtain ⟨D, h1, h2⟩ := h
  exact ⟨D, h1.mono hn, h2⟩

/-! ### two blocks of different kinds are two blocks -/
section
variable {w : World} {base r : Nat} {ov : Value} {s : ByteArray} {dv : Value} {mv : Option Nat}

theorem row_set {v : Value} {n : Nat} {xs : List Value} (h : w.ownsRow base 102 4 v n xs) {b j : Nat} (hr : ∀ cur, w.heap[b]? ≠ some (.cells cur 102 (0, 0))) (u : Value) : (w.setCell ⟨b, j, none⟩ u).ownsRow base 102 4 v n xs := by
  refine ⟨h.1, ?_⟩
  rcases h.2 with h1 | ⟨g, cap, cur, h1, h2, h3, h4⟩
  · exact Or.inl h1
  · exact Or.inr ⟨g, cap, cur, h1, h2, by rw [Below.heap_setCell _ _ _ _ (fun e => hr cur (by simp only at e; rw [← e]; exact h3))]; exact h3, h4⟩

theorem row_kept {v : Value} {n : Nat} {xs : List Value} {w' : World} {row : Option Nat} (h : w.ownsRow base 102 4 v n xs) (hg : w.grownBy w' row) (hr : ∀ k, row = some k → ∀ cur, w.heap[k]? ≠ some (.cells cur 102 (0, 0))) : w'.ownsRow base 102 4 v n xs := by
  refine ⟨h.1, ?_⟩
  rcases h.2 with h1 | ⟨g, cap, cur, h1, h2, h3, h4⟩
  · exact Or.inl h1
  · exact Or.inr ⟨g, cap, cur, h1, h2, by rw [hg.block g (Array.getElem?_eq_some_iff.1 h3).1 (fun e => hr g e.symm cur h3)]; exact h3, h4⟩

theorem RdBlk.notRow (h : RdBlk w r ov s dv mv) : ∀ cur, w.heap[r]? ≠ some (.cells cur 102 (0, 0)) := by
  obtain ⟨arr, hb, _⟩ := h
  intro cur e
  rw [hb] at e
  simp at e

theorem map_set {b n sz : Nat} {f : ByteArray → Option ByteArray} (h : MapIs w b n f sz) {k j : Nat} {arr : Array Value} {t : TypeId} {m : Nat × Nat} (hk : w.heap[k]? = some (.cells arr t m)) (u : Value) : MapIs (w.setCell ⟨k, j, none⟩ u) b n f sz := by
  refine h.kept (Below.heap_setCell _ _ _ _ (fun e => ?_))
  obtain ⟨es, clock, hb⟩ := h.block
  simp only at e
  rw [e, hk] at hb
  simp at hb

theorem map_grown {b n sz : Nat} {f : ByteArray → Option ByteArray} {w' : World} {row : Option Nat} (h : MapIs w b n f sz) (hg : w.grownBy w' row) (hr : ∀ k, row = some k → ∃ arr t m, w.heap[k]? = some (.cells arr t m)) : MapIs w' b n f sz := by
  obtain ⟨es, clock, hb⟩ := h.block
  refine h.kept (hg.block b (Array.getElem?_eq_some_iff.1 hb).1 (fun e => ?_))
  obtain ⟨arr, t, m, hk⟩ := hr b e.symm
  rw [hb] at hk
  simp at hk

/-- Where a row's own block lies. -/
theorem row_block {v : Value} {n : Nat} {xs : List Value} (h : w.ownsRow base 102 4 v n xs) : ∀ k, v.ownBlock = some k → base ≤ k ∧ ∃ cur, w.heap[k]? = some (.cells cur 102 (0, 0)) := by
  intro k hk
  rcases h.2 with ⟨h1, _⟩ | ⟨g, cap, cur, h1, h2, h3, _⟩
  · rw [h1] at hk; simp [Value.ownBlock] at hk
  · rw [h1] at hk
    simp only [Value.ownBlock, Option.some.injEq] at hk
    subst hk
    exact ⟨h2, cur, h3⟩
end

section
variable {w : World} {base r : Nat} {ov : Value} {s : ByteArray} {dv : Value} {ds : List Dcl} {mp : Option (Nat × Nat × (ByteArray → Option ByteArray) × Nat)}

/-- A store into the row of declarations: the rest of the reader stays. -/
theorem Rd.setRow (h : Rd w base r ov s dv ds mp) {g cap j : Nat} (hv : dv = .slice (some ⟨g, 0, none⟩) ds.length cap) (u : Value) (ds' : List Dcl) (hl : ds'.length = ds.length) (hf : (flat ds).set j u = flat ds') :
    Rd (w.setCell ⟨g, j, none⟩ u) base r ov s dv ds' mp ∧ Fr base w (w.setCell ⟨g, j, none⟩ u) := by
  have hr := h.row
  obtain ⟨hbg, cur, hcur⟩ := row_block hr g (by rw [hv]; rfl)
  have hne : r ≠ g := fun e => h.blk.notRow cur (by rw [e]; exact hcur)
  refine ⟨⟨h.blk.kept (Below.heap_setCell _ _ _ _ hne), ?_, h.hb, fun b n f sz e => ?_⟩, (Fr.refl _ _).setCell hcur (Or.inl rfl) hbg u⟩
  · rw [hl, ← hf, hv]
    rw [hv] at hr
    exact (hr.stored j u).1
  · obtain ⟨h1, h2⟩ := h.mok b n f sz e
    exact ⟨h1, map_set h2 hcur u⟩

theorem Rd.setRec (h : Rd w base r ov s dv ds mp) {g cap i : Nat} {d : Dcl} (hv : dv = .slice (some ⟨g, 0, none⟩) ds.length cap) (hd : ds[i]? = some d) (v : ByteArray) (bo : Bool) :
    Rd ((w.setCell ⟨g, i * 4 + 2, none⟩ (.string v)).setCell ⟨g, i * 4 + 3, none⟩ (.bool bo)) base r ov s dv (ds.set i { d with r := v, b := bo }) mp ∧
      Fr base w ((w.setCell ⟨g, i * 4 + 2, none⟩ (.string v)).setCell ⟨g, i * 4 + 3, none⟩ (.bool bo)) := by
  have hi : i < ds.length := (List.getElem?_eq_some_iff.1 hd).1
  obtain ⟨h1, f1⟩ := h.setRow hv (.string v) (ds.set i { d with r := v }) (by simp) (flat_set2 ds i d v hd)
  have hd2 : (ds.set i { d with r := v })[i]? = some { d with r := v } := by simp [hi]
  obtain ⟨h2, f2⟩ := h1.setRow (by simpa using hv) (.bool bo) ((ds.set i { d with r := v }).set i { d with r := v, b := bo }) (by simp) (flat_set3 _ i _ bo hd2)
  rw [List.set_set] at h2
  exact ⟨h2, f1.trans f2⟩

theorem Rd.mapStore {b n sz : Nat} {f : ByteArray → Option ByteArray} (h : Rd w base r ov s dv ds (some (b, n, f, sz))) (hn : n < maxLen) {k v : ByteArray} (hk : k.size ≤ maxLen) (hv : v.size ≤ maxLen) :
    ∃ w', (Instr.mapUpdate 68 (.map (some b)) (.string k) (.string v)).run Try.prog w = .ok () w' ∧
      Rd w' base r ov s dv ds (some (b, n + 1, upd f k (some v), if (f k).isSome then sz else sz + 1)) ∧ Fr base w w' := by
  obtain ⟨h1, h2⟩ := h.mok b n f sz rfl
  obtain ⟨w', hrun, hm, ht⟩ := h2.store hn hk hv
  have hg := ht.grown
  have hbs : base ≤ w.heap.size := Nat.le_trans h.hb (Nat.le_of_lt h.blk.lt)
  obtain ⟨es, clock, hb⟩ := h2.block
  refine ⟨w', hrun, ⟨h.blk.kept (hg.block r h.blk.lt (fun e => ?_)), row_kept h.row hg (fun k hk cur e => ?_), h.hb, fun b' n' f' sz' e => ?_⟩, (Fr.refl _ _).turned ht h1 hbs⟩
  · obtain ⟨arr, ha⟩ := h.blk.tag
    have e' := Option.some.inj e
    rw [e', hb] at ha
    simp at ha
  · cases hk
    rw [hb] at e
    simp at e
  · simp only [Option.some.injEq, Prod.mk.injEq] at e
    obtain ⟨rfl, rfl, rfl, rfl⟩ := e
    exact ⟨h1, hm⟩

theorem Rd.mapDrop {b n sz : Nat} {f : ByteArray → Option ByteArray} (h : Rd w base r ov s dv ds (some (b, n, f, sz))) {k : ByteArray} (hk : k.size ≤ maxLen) (ty : TypeId) :
    ∃ w', (Builtin.delete_ #[68, 9] ty #[.map (some b), .string k]).run Try.prog w = .ok (.tuple #[]) w' ∧
      Rd w' base r ov s dv ds (some (b, n, upd f k none, sz - if (f k).isSome then 1 else 0)) ∧ Fr base w w' := by
  obtain ⟨h1, h2⟩ := h.mok b n f sz rfl
  obtain ⟨w', hrun, hm, ht⟩ := h2.drop hk ty
  have hg := ht.grown
  have hbs : base ≤ w.heap.size := Nat.le_trans h.hb (Nat.le_of_lt h.blk.lt)
  obtain ⟨es, clock, hb⟩ := h2.block
  refine ⟨w', hrun, ⟨h.blk.kept (hg.block r h.blk.lt (fun e => ?_)), row_kept h.row hg (fun k hk cur e => ?_), h.hb, fun b' n' f' sz' e => ?_⟩, (Fr.refl _ _).turned ht h1 hbs⟩
  · obtain ⟨arr, ha⟩ := h.blk.tag
    have e' := Option.some.inj e
    rw [e', hb] at ha
    simp at ha
  · cases hk
    rw [hb] at e
    simp at e
  · simp only [Option.some.injEq, Prod.mk.injEq] at e
    obtain ⟨rfl, rfl, rfl, rfl⟩ := e
    exact ⟨h1, hm⟩
end

/-- A store into a block that is none of the reader's. -/
theorem Rd.setOther {w : World} {base r : Nat} {ov : Value} {s : ByteArray} {dv : Value} {ds : List Dcl} {mp : Option (Nat × Nat × (ByteArray → Option ByteArray) × Nat)} (h : Rd w base r ov s dv ds mp) {k j : Nat} {arr : Array Value} {t : TypeId} {m : Nat × Nat}
    (hk : w.heap[k]? = some (.cells arr t m)) (h1 : t ≠ 102) (h2 : t ≠ 105) (u : Value) : Rd (w.setCell ⟨k, j, none⟩ u) base r ov s dv ds mp := by
  refine ⟨h.blk.kept (Below.heap_setCell _ _ _ _ (fun e => ?_)), row_set h.row (fun cur e => ?_) u, h.hb, fun b n f sz e => ?_⟩
  · obtain ⟨arr', ha⟩ := h.blk.tag
    simp only at e
    rw [e, hk] at ha
    simp at ha
    exact h2 ha.2.1
  · rw [hk] at e
    simp at e
    exact h1 e.2.1
  · obtain ⟨h3, h4⟩ := h.mok b n f sz e
    exact ⟨h3, map_set h4 hk u⟩

/-- A store into a block that is new. -/
theorem Fr.setNew {base : Nat} {w w2 : World} (h : Fr base w w2) {k j : Nat} (hk : w.heap.size ≤ k) (hb : base ≤ w.heap.size) (u : Value) : Fr base w (w2.setCell ⟨k, j, none⟩ u) := by
  refine ⟨h.below.setCell (Nat.le_trans hb hk) u, fun i arr t m hi h1 h2 => ?_⟩
  have hlt := (Array.getElem?_eq_some_iff.1 hi).1
  rw [Below.heap_setCell _ _ _ _ (fun e => by simp only at e; omega)]
  exact h.tag i arr t m hi h1 h2

section
variable (w : World) (base r : Nat) (ov : Value) (s : ByteArray) (dv : Value) (ds : List Dcl) (mp : Option (Nat × Nat × (ByteArray → Option ByteArray) × Nat))

set_option maxHeartbeats 400000 in
theorem defaultSpace_any (h : Rd w base r ov s dv ds mp) :
    Calls Try.prog 13 #[.pointer (some ⟨r, 0, none⟩)] w fun e w' => e = .returned (.string s) ∧ w' = w := by
  have h10 := h.blk.c10
  clear h
  go_enter Try.func13, Try.ntmps13
  go_wp2
  go_ret
  exact ⟨rfl, rfl⟩

set_option maxHeartbeats 400000 in
theorem declCount_any (h : Rd w base r ov s dv ds mp) :
    Calls Try.prog 14 #[.pointer (some ⟨r, 0, none⟩)] w fun e w' => e = .returned (.int .i64 ds.length) ∧ w' = w := by
  obtain ⟨p, cap, hv⟩ := h.shape
  have h11 := h.blk.c11
  rw [hv] at h11
  clear h hv
  go_enter Try.func14, Try.ntmps14
  go_wp2
  go_ret
  exact ⟨rfl, rfl⟩

set_option maxHeartbeats 400000 in
set_option maxRecDepth 100000 in
theorem prefixesNil_any (h : Rd w base r ov s dv ds mp) :
    Calls Try.prog 16 #[.pointer (some ⟨r, 0, none⟩)] w fun e w' => e = .returned (.bool mp.isNone) ∧ w' = w := by
  have h12 := h.blk.c12
  have hm : (mp.map (·.1)).isNone = mp.isNone := by cases mp <;> rfl
  have hq : ∀ (w : World) (r : Option Nat), (binOp .eql 68 (.map r) (.map none)).run Try.prog w = .ok (.bool r.isNone) w := fun w r => run_eql_map_nil w _ _ _ r Try.underlying68
  clear h
  have HM : Hid ((mp.map (·.1)).isNone = mp.isNone) := hm
  clear hm
  generalize mp.map (·.1) = mb at *
  go_enter Try.func16, Try.ntmps16
  go_wp2
  go_ret
  exact ⟨by rw [← HM.out]; rfl, rfl⟩

set_option maxHeartbeats 400000 in
set_option maxRecDepth 100000 in
theorem prefixLookup_any (b n : Nat) (f : ByteArray → Option ByteArray) (sz : Nat) (k : ByteArray) (hk : k.size ≤ maxLen) (h : Rd w base r ov s dv ds (some (b, n, f, sz))) :
    Calls Try.prog 17 #[.pointer (some ⟨r, 0, none⟩), .string k] w fun e w' => e = .returned (.tuple #[.string ((f k).getD ⟨#[]⟩), .bool (f k).isSome]) ∧ w' = w := by
  have h12 := h.blk.c12
  have hl := (h.mok b n f sz rfl).2.look hk
  simp only [Option.map_some] at h12
  clear h
  generalize (f k).getD ⟨#[]⟩ = v at *
  generalize (f k).isSome = o at *
  go_enter Try.func17, Try.ntmps17
  go_wp2
  go_ret2
  exact ⟨rfl, rfl⟩

set_option maxHeartbeats 400000 in
set_option maxRecDepth 100000 in
theorem prefixCount_any (b n : Nat) (f : ByteArray → Option ByteArray) (sz : Nat) (h : Rd w base r ov s dv ds (some (b, n, f, sz))) :
    Calls Try.prog 18 #[.pointer (some ⟨r, 0, none⟩)] w fun e w' => e = .returned (.int .i64 sz) ∧ w' = w := by
  have h12 := h.blk.c12
  have hl := (h.mok b n f sz rfl).2.len 3
  simp only [Option.map_some] at h12
  clear h
  go_enter Try.func18, Try.ntmps18
  go_wp2
  go_ret
  exact ⟨rfl, rfl⟩

set_option maxHeartbeats 400000 in
set_option maxRecDepth 100000 in
theorem declAt_any (i : Nat) (d : Dcl) (h : Rd w base r ov s dv ds mp) (hd : ds[i]? = some d) (hn : ds.length ≤ 1048576) :
    Calls Try.prog 15 #[.pointer (some ⟨r, 0, none⟩), .int .i64 i] w fun e w' => e = .returned (.tuple #[.string d.p, .string d.s, .string d.r, .bool d.b]) ∧ Fr w.heap.size w w' := by
  have hi : i < ds.length := (List.getElem?_eq_some_iff.1 hd).1
  obtain ⟨g, cap, hv, _, _⟩ := h.slot (by omega)
  have h11 := h.blk.c11
  obtain ⟨c0, c1, c2, c3⟩ := h.at hv hd
  rw [hv] at h11
  clear h hv hd
  go_enter Try.func15, Try.ntmps15
  go_wp2
  go_quiet (fail)
  go_wp2
  exact bodyPost_ret (v := .tuple #[.string d.p, .string d.s, .string d.r, .bool d.b]) (by simp [results, Try.results15, go_sem]) rfl ⟨rfl, ((Fr.refl _ _).alloc (Nat.le_refl _) _).drewN nq⟩

theorem info102 : (Try.prog.info? 102).map (fun i => (i.zero, i.size, i.bytes)) = some (some (.agg #[.string ⟨#[]⟩, .string ⟨#[]⟩, .string ⟨#[]⟩, .bool false]), 4, 56) := by kernel_rfl

set_option maxHeartbeats 400000 in
set_option maxRecDepth 100000 in
theorem pushDecl_any (p sp rp : ByteArray) (bd : Bool) (h : Rd w base r ov s dv ds mp) (hn : ds.length ≤ 1048576) :
    Calls Try.prog 10 #[.pointer (some ⟨r, 0, none⟩), .string p, .string sp, .string rp, .bool bd] w fun e w' => e = .returned (.tuple #[]) ∧
      (∃ dv', Rd w' base r ov s dv' (ds ++ [⟨p, sp, rp, bd⟩]) mp) ∧ Fr base w w' := by
  obtain ⟨i0, hi, hz0, hz1, hz2⟩ := info_parts info102
  obtain ⟨pp, cap, hv⟩ := h.shape
  have h11 := h.blk.c11
  have hown := h.row
  have HR : Hid (Rd w base r ov s dv ds mp) := h
  clear h
  rw [hv] at h11 hown
  have HV : Hid (dv = .slice pp ds.length cap) := hv
  clear hv
  generalize hlen : ds.length = n at *
  have HL : Hid (ds.length = n) := hlen
  clear hlen
  go_enter Try.func10, Try.ntmps10
  go_wp2_with (at_builtin; refine wpList_append_own _ rfl (.tmp 14) (.tmp 20) 86 rfl base 102 i0 _ 4 56 Try.underlying86 hi hz0 hz1 hz2 rfl (by decide) _ _ _ rfl (hown.alloc _) ⟨w.heap.size, 0, none⟩ 1 1 [.string p, .string sp, .string rp, .bool bd] rfl rfl ?qc1 ?qc2 ?qc3 ?qc4 ?qc5 ?_)
  case qc1 =>
    intro j u hj
    have e : (⟨w.heap.size, 0, none⟩ : Addr).add j = ⟨w.heap.size, j, none⟩ := by unfold Addr.add; split <;> simp_all
    rw [e, World.cell?_alloc_at _ _ _ _ rfl]
    simpa using hj
  case qc2 =>
    intro u hu
    simp only [List.mem_cons, List.not_mem_nil, or_false] at hu
    rcases hu with rfl | rfl | rfl | rfl <;> rfl
  case qc3 => unfold maxLen; omega
  case qc4 => omega
  case qc5 => have h1 := HR.out.hb; have h2 := HR.out.blk.lt; simp; omega
  intro v' w1 hown1 hgrow1 _
  have hR := HR.out
  have hbs : base ≤ w.heap.size := Nat.le_trans hR.hb (Nat.le_of_lt hR.blk.lt)
  obtain ⟨g', cap', hv'⟩ : ∃ g' cap', v' = .slice (some ⟨g', 0, none⟩) (n + 1) cap' := by
    rcases hown1.2 with ⟨_, h2⟩ | ⟨g, cap, cur, h1, _⟩
    · omega
    · exact ⟨g, cap, h1⟩
  have hrow := row_block (hown.alloc (.cells #[.string p, .string sp, .string rp, .bool bd] 102))
  have hblk1 : RdBlk w1 r ov s dv (mp.map (·.1)) := by
    have h0 := (hR.alloc (.cells #[.string p, .string sp, .string rp, .bool bd] 102)).blk
    exact h0.kept (hgrow1.block r h0.lt (fun e => by obtain ⟨_, cur, hc⟩ := hrow r e.symm; exact h0.notRow cur hc))
  have HRD : Hid (Rd (w1.setCell ⟨r, 11, none⟩ v') base r ov s v' (ds ++ [⟨p, sp, rp, bd⟩]) mp) := by
    refine ⟨hblk1.set11 v', ?_, hR.hb, fun b nn f sz e => ?_⟩
    · have hl : (ds ++ [(⟨p, sp, rp, bd⟩ : Dcl)]).length = n + 1 := by simp [HL.out]
      rw [hl, flat_append]
      exact row_set hown1 hblk1.notRow v'
    · obtain ⟨h1, h2⟩ := (hR.alloc (.cells #[.string p, .string sp, .string rp, .bool bd] 102)).mok b nn f sz e
      obtain ⟨arr, ha⟩ := hblk1.tag
      exact ⟨h1, map_set (map_grown h2 hgrow1 (fun k hk => by obtain ⟨_, cur, hc⟩ := hrow k hk; exact ⟨cur, 102, _, hc⟩)) ha v'⟩
  have HF : Hid (Fr base w (w1.setCell ⟨r, 11, none⟩ v')) := by
    obtain ⟨arr, ha⟩ := hblk1.tag
    refine (((Fr.refl _ _).alloc hbs _).grown hgrow1 (by simpa using Nat.le_succ_of_le hbs) (fun k hk => ?_)).setCell ha (Or.inr rfl) hR.hb v'
    obtain ⟨h1, cur, hc⟩ := hrow k hk
    exact ⟨h1, fun arr t m he => by rw [hc] at he; simp at he; exact Or.inl he.2.1.symm⟩
  have hc11 := hblk1.c11
  have hfz := hblk1.fz 11
  rw [HV.out] at hc11
  clear hR hrow hblk1 hown1 hgrow1 HR HV HL hown h11
  rw [hv'] at HRD HF ⊢
  go_wp2
  go_end0
  exact ⟨rfl, ⟨_, HRD.out⟩, HF.out⟩
end

end Go.Proofs.Qxb6601967a
