/-
  The reader's stack of open elements: push, count, at; the default space set; the children counted.
-/
import Derived.Test.Qxb6601967aOps
namespace Go.Proofs.Qxb6601967a
set_option linter.unusedVariables false
set_option linter.unusedSimpArgs false
open Go.RowKit Go.Maps

/-- An open element's cells. -/
def oel (el : Nat) (dc : Nat) : List Value := [.pointer (some ⟨el, 0, none⟩), .string ⟨#[]⟩, .int .i64 0, .int .i64 dc, .bool false]

/-- Below base nothing turns; a row that is no reader, no row of declarations and no row of open elements stays. -/
structure Fq (base : Nat) (w w' : World) : Prop where
  below : Below base w w'
  tag : ∀ (k : Nat) (arr : Array Value) (t : TypeId) (m : Nat × Nat), w.heap[k]? = some (.cells arr t m) → t ≠ 102 → t ≠ 105 → t ≠ 95 → w'.heap[k]? = some (.cells arr t m)

theorem Fr.q {base : Nat} {w w' : World} (h : Fr base w w') : Fq base w w' := ⟨h.below, fun k arr t m hk h1 h2 _ => h.tag k arr t m hk h1 h2⟩
theorem Fq.refl (base : Nat) (w : World) : Fq base w w := ⟨Below.refl _ _, fun _ _ _ _ h _ _ _ => h⟩
theorem Fq.trans {base : Nat} {a b c : World} (h : Fq base a b) (k : Fq base b c) : Fq base a c :=
  ⟨h.below.trans k.below, fun i arr t m hi h1 h2 h3 => k.tag i arr t m (h.tag i arr t m hi h1 h2 h3) h1 h2 h3⟩
theorem Fq.alloc {base : Nat} {a w : World} (h : Fq base a w) (hB : base ≤ w.heap.size) (o : Obj) : Fq base a (w.alloc o) :=
  h.trans ((Fr.refl base w).alloc hB o).q

/-- A row of open elements. -/
theorem orow_block {w : World} {base : Nat} {v : Value} {n : Nat} {xs : List Value} (h : w.ownsRow base 95 5 v n xs) : ∀ k, v.ownBlock = some k → base ≤ k ∧ ∃ cur, w.heap[k]? = some (.cells cur 95 (0, 0)) := by
  intro k hk
  rcases h.2 with ⟨h1, _⟩ | ⟨g, cap, cur, h1, h2, h3, _⟩
  · rw [h1] at hk; simp [Value.ownBlock] at hk
  · rw [h1] at hk
    simp only [Value.ownBlock, Option.some.injEq] at hk
    subst hk
    exact ⟨h2, cur, h3⟩

/-- It stays where its block stays. -/
theorem orow_kept {w w' : World} {base : Nat} {v : Value} {n : Nat} {xs : List Value} (h : w.ownsRow base 95 5 v n xs) (hk : ∀ (k : Nat) (cur : Array Value), w.heap[k]? = some (Obj.cells cur 95 (0, 0)) → w'.heap[k]? = some (Obj.cells cur 95 (0, 0))) : w'.ownsRow base 95 5 v n xs := by
  refine ⟨h.1, ?_⟩
  rcases h.2 with h1 | ⟨g, cap, cur, h1, h2, h3, h4⟩
  · exact Or.inl h1
  · exact Or.inr ⟨g, cap, cur, h1, h2, hk g cur h3, h4⟩
theorem orow_fr {w w' : World} {base b2 : Nat} {v : Value} {n : Nat} {xs : List Value} (h : w.ownsRow base 95 5 v n xs) (hf : Fr b2 w w') : w'.ownsRow base 95 5 v n xs :=
  orow_kept h fun k cur hk => hf.tag k cur 95 _ hk (by decide) (by decide)
theorem orow_below {w w' : World} {base B : Nat} {v : Value} {n : Nat} {xs : List Value} (h : w.ownsRow base 95 5 v n xs) (hf : Below B w w') (hB : w.heap.size ≤ B) : w'.ownsRow base 95 5 v n xs :=
  orow_kept h fun k cur hk => by rw [hf.block k (Nat.lt_of_lt_of_le (Array.getElem?_eq_some_iff.1 hk).1 hB)]; exact hk

theorem info95 : (Try.prog.info? 95).map (fun i => (i.zero, i.size, i.bytes)) = some (some (.agg #[.pointer none, .string ⟨#[]⟩, .int .i64 0, .int .i64 0, .bool false]), 5, 48) := by kernel_rfl

section
variable (w : World) (base r : Nat) (ov : Value) (s : ByteArray) (dv : Value) (ds : List Dcl) (mp : Option (Nat × Nat × (ByteArray → Option ByteArray) × Nat))

set_option maxHeartbeats 400000 in
set_option maxRecDepth 100000 in
theorem setSpace_any (v : ByteArray) (h : Rd w base r ov s dv ds mp) :
    Calls Try.prog 42 #[.pointer (some ⟨r, 0, none⟩), .string v] w fun e w' => e = .returned (.tuple #[]) ∧ Rd w' base r ov v dv ds mp ∧ Fr base w w' := by
  have h10 := h.blk.c10
  have hfz := h.blk.fz 10
  have HR : Hid (Rd (w.setCell ⟨r, 10, none⟩ (.string v)) base r ov v dv ds mp) := by
    obtain ⟨arr, ha⟩ := h.blk.tag
    exact ⟨h.blk.set10 v, row_set h.row h.blk.notRow _, h.hb, fun b n f sz e => ⟨(h.mok b n f sz e).1, map_set (h.mok b n f sz e).2 ha _⟩⟩
  have HF : Hid (Fr base w (w.setCell ⟨r, 10, none⟩ (.string v))) := by
    obtain ⟨arr, ha⟩ := h.blk.tag
    exact (Fr.refl _ _).setCell ha (Or.inr rfl) h.hb _
  clear h
  go_enter Try.func42, Try.ntmps42
  go_wp2
  go_end0
  exact ⟨rfl, HR.out, HF.out⟩

set_option maxHeartbeats 400000 in
set_option maxRecDepth 100000 in
theorem childCount_any (h : Rd w base r ov s dv ds mp) :
    Calls Try.prog 36 #[.pointer (some ⟨r, 0, none⟩)] w fun e w' => e = .returned (.int .i64 0) ∧ w' = w := by
  have h8 := h.blk.c8
  clear h
  go_enter Try.func36, Try.ntmps36
  go_wp2
  go_ret
  exact ⟨rfl, rfl⟩

set_option maxHeartbeats 400000 in
set_option maxRecDepth 100000 in
theorem openCount_any (n : Nat) (xs : List Value) (h : Rd w base r ov s dv ds mp) (ho : w.ownsRow base 95 5 ov n xs) :
    Calls Try.prog 34 #[.pointer (some ⟨r, 0, none⟩)] w fun e w' => e = .returned (.int .i64 n) ∧ w' = w := by
  have h7 := h.blk.c7
  obtain ⟨p, cap, hv⟩ : ∃ p cap, ov = .slice p n cap := by
    rcases ho.2 with ⟨h1, h2⟩ | ⟨g, cap, cur, h1, _⟩
    · exact ⟨none, 0, by rw [h1, h2]⟩
    · exact ⟨_, _, h1⟩
  rw [hv] at h7
  clear h ho hv
  go_enter Try.func34, Try.ntmps34
  go_wp2
  go_ret
  exact ⟨rfl, rfl⟩

set_option maxHeartbeats 400000 in
set_option maxRecDepth 100000 in
theorem pushOpen_any (el dc n : Nat) (xs : List Value) (h : Rd w base r ov s dv ds mp) (ho : w.ownsRow base 95 5 ov n xs) (hn : n ≤ 1048576) :
    Calls Try.prog 28 #[.pointer (some ⟨r, 0, none⟩), .pointer (some ⟨el, 0, none⟩), .int .i64 0, .int .i64 dc, .bool false] w fun e w' => e = .returned (.tuple #[]) ∧
      (∃ ov', Rd w' base r ov' s dv ds mp ∧ w'.ownsRow base 95 5 ov' (n + 1) (xs ++ oel el dc)) ∧ Fq base w w' := by
  obtain ⟨i0, hi, hz0, hz1, hz2⟩ := info_parts info95
  have h7 := h.blk.c7
  have hown := ho
  obtain ⟨pp, cap, hv⟩ : ∃ p cap, ov = .slice p n cap := by
    rcases ho.2 with ⟨h1, h2⟩ | ⟨g, cap, cur, h1, _⟩
    · exact ⟨none, 0, by rw [h1, h2]⟩
    · exact ⟨_, _, h1⟩
  have HR : Hid (Rd w base r ov s dv ds mp) := h
  clear h ho
  rw [hv] at h7 hown
  have HV : Hid (ov = .slice pp n cap) := hv
  clear hv
  go_enter Try.func28, Try.ntmps28
  go_wp2_with (at_builtin; refine wpList_append_own _ rfl (.tmp 14) (.tmp 20) 84 rfl base 95 i0 _ 5 48 Try.underlying84 hi hz0 hz1 hz2 rfl (by decide) _ _ _ rfl (hown.alloc _) ⟨w.heap.size, 0, none⟩ 1 1 (oel el dc) rfl rfl ?qc1 ?qc2 ?qc3 ?qc4 ?qc5 ?_)
  case qc1 =>
    intro j u hj
    have e : (⟨w.heap.size, 0, none⟩ : Addr).add j = ⟨w.heap.size, j, none⟩ := by unfold Addr.add; split <;> simp_all
    rw [e, World.cell?_alloc_at _ _ _ _ rfl]
    simpa [oel] using hj
  case qc2 =>
    intro u hu
    simp only [oel, List.mem_cons, List.not_mem_nil, or_false] at hu
    rcases hu with rfl | rfl | rfl | rfl | rfl <;> rfl
  case qc3 => unfold maxLen; omega
  case qc4 => omega
  case qc5 => have h1 := HR.out.hb; have h2 := HR.out.blk.lt; simp; omega
  intro v' w1 hown1 hgrow1 _
  have hR := HR.out.alloc (.cells #[.pointer (some ⟨el, 0, none⟩), .string ⟨#[]⟩, .int .i64 0, .int .i64 dc, .bool false] 95)
  have hbs : base ≤ w.heap.size := Nat.le_trans HR.out.hb (Nat.le_of_lt HR.out.blk.lt)
  obtain ⟨g', cap', hv'⟩ : ∃ g' cap', v' = .slice (some ⟨g', 0, none⟩) (n + 1) cap' := by
    rcases hown1.2 with ⟨_, h2⟩ | ⟨g, cap, cur, h1, _⟩
    · omega
    · exact ⟨g, cap, h1⟩
  have hrow := orow_block (hown.alloc (.cells #[.pointer (some ⟨el, 0, none⟩), .string ⟨#[]⟩, .int .i64 0, .int .i64 dc, .bool false] 95))
  have hblk1 : RdBlk w1 r ov s dv (mp.map (·.1)) := by
    refine hR.blk.kept (hgrow1.block r hR.blk.lt (fun e => ?_))
    obtain ⟨_, cur, hc⟩ := hrow r e.symm
    obtain ⟨arr, ha⟩ := hR.blk.tag
    rw [hc] at ha
    simp at ha
  have HRD : Hid (Rd (w1.setCell ⟨r, 7, none⟩ v') base r v' s dv ds mp) := by
    refine ⟨hblk1.set7 v', ?_, HR.out.hb, fun b nn f sz e => ?_⟩
    · refine row_set (row_kept hR.row hgrow1 (fun k hk cur e => ?_)) hblk1.notRow v'
      obtain ⟨_, cur', hc⟩ := hrow k hk
      rw [hc] at e
      simp at e
    · obtain ⟨h1, h2⟩ := hR.mok b nn f sz e
      obtain ⟨arr, ha⟩ := hblk1.tag
      exact ⟨h1, map_set (map_grown h2 hgrow1 (fun k hk => by obtain ⟨_, cur, hc⟩ := hrow k hk; exact ⟨cur, 95, _, hc⟩)) ha v'⟩
  have HOW : Hid ((w1.setCell ⟨r, 7, none⟩ v').ownsRow base 95 5 v' (n + 1) (xs ++ oel el dc)) := by
    refine orow_kept hown1 (fun k cur hk => ?_)
    obtain ⟨arr, ha⟩ := hblk1.tag
    rw [Below.heap_setCell _ _ _ _ (fun e => by simp only at e; rw [e, ha] at hk; simp at hk)]
    exact hk
  have HF : Hid (Fq base w (w1.setCell ⟨r, 7, none⟩ v')) := by
    obtain ⟨arr, ha⟩ := hblk1.tag
    refine ⟨(((Below.refl _ _).alloc hbs _).grown hgrow1 (by simpa using Nat.le_succ_of_le hbs) (fun k hk => (hrow k hk).1)).setCell HR.out.hb v', fun k arr' t m hk h1 h2 h3 => ?_⟩
    have hk1 : (w.alloc (.cells #[.pointer (some ⟨el, 0, none⟩), .string ⟨#[]⟩, .int .i64 0, .int .i64 dc, .bool false] 95)).heap[k]? = some (.cells arr' t m) := by
      rw [Below.heap_alloc w _ k (Array.getElem?_eq_some_iff.1 hk).1]; exact hk
    have hk2 : w1.heap[k]? = some (.cells arr' t m) := by
      rw [hgrow1.block k (Array.getElem?_eq_some_iff.1 hk1).1 (fun e => ?_)]
      · exact hk1
      · obtain ⟨_, cur, hc⟩ := hrow k e.symm
        rw [hc] at hk1
        simp at hk1
        exact h3 hk1.2.1.symm
    rw [Below.heap_setCell _ _ _ _ (fun e => by simp only at e; rw [e, ha] at hk2; simp at hk2; exact h2 hk2.2.1.symm)]
    exact hk2
  have hc7 := hblk1.c7
  have hfz := hblk1.fz 7
  rw [HV.out] at hc7
  clear hR hrow hblk1 hown1 hgrow1 HR HV hown h7
  rw [hv'] at HRD HF HOW ⊢
  go_wp2
  go_end0
  exact ⟨rfl, ⟨_, HRD.out, HOW.out⟩, HF.out⟩

set_option maxHeartbeats 400000 in
set_option maxRecDepth 100000 in
/-- The only open element. -/
theorem openAt_any (el dc : Nat) (h : Rd w base r ov s dv ds mp) (ho : w.ownsRow base 95 5 ov 1 (oel el dc)) :
    Calls Try.prog 35 #[.pointer (some ⟨r, 0, none⟩), .int .i64 0] w fun e w' => e = .returned (.tuple #[.pointer (some ⟨el, 0, none⟩), .int .i64 0, .int .i64 dc, .bool false]) ∧ Fr w.heap.size w w' := by
  have h7 := h.blk.c7
  obtain ⟨g, cap, hv⟩ : ∃ g cap, ov = .slice (some ⟨g, 0, none⟩) 1 cap := by
    rcases ho.2 with ⟨h1, h2⟩ | ⟨g, cap, cur, h1, _⟩
    · omega
    · exact ⟨_, _, h1⟩
  rw [hv] at h7 ho
  have c0 : w.cell? ⟨g, 0, none⟩ = some (.pointer (some ⟨el, 0, none⟩)) := ho.cellAt 0 (by decide)
  have c1 : w.cell? ⟨g, 1, none⟩ = some (.string ⟨#[]⟩) := ho.cellAt 1 (by decide)
  have c2 : w.cell? ⟨g, 2, none⟩ = some (.int .i64 0) := ho.cellAt 2 (by decide)
  have c3 : w.cell? ⟨g, 3, none⟩ = some (.int .i64 dc) := ho.cellAt 3 (by decide)
  have c4 : w.cell? ⟨g, 4, none⟩ = some (.bool false) := ho.cellAt 4 (by decide)
  clear h hv ho
  go_enter Try.func35, Try.ntmps35
  go_wp2
  go_quiet (fail)
  go_wp2
  exact bodyPost_ret (v := .tuple #[.pointer (some ⟨el, 0, none⟩), .int .i64 0, .int .i64 dc, .bool false]) (by simp [results, Try.results35, go_sem]) rfl ⟨rfl, ((Fr.refl _ _).alloc (Nat.le_refl _) _).drewN nq⟩
end

end Go.Proofs.Qxb6601967a
