/-
  The reader in memory: its block, its declarations' row, its map; what an operation on it leaves alone.
-/
import Derived.Test.Qxb6601967aMaps
import Derived.WalkSpells
import Derived.WalkLawsBesides
import Derived.Deep.QuietTactic
import Derived.BigQuiet
namespace Go.Proofs.Qxb6601967a
set_option linter.unusedVariables false
set_option linter.unusedSimpArgs false
open Go.RowKit Go.Maps

/-! ### declarations as a list -/
structure Dcl where
  p : ByteArray
  s : ByteArray
  r : ByteArray
  b : Bool

def Dcl.cells (d : Dcl) : List Value := [.string d.p, .string d.s, .string d.r, .bool d.b]
def flat (ds : List Dcl) : List Value := ds.flatMap Dcl.cells

theorem flat_cons (d : Dcl) (ds : List Dcl) : flat (d :: ds) = .string d.p :: .string d.s :: .string d.r :: .bool d.b :: flat ds := by simp [flat, Dcl.cells]
theorem flat_append (a b : List Dcl) : flat (a ++ b) = flat a ++ flat b := by simp [flat]
theorem flat_length : ∀ ds : List Dcl, (flat ds).length = ds.length * 4
  | [] => rfl
  | d :: ds => by rw [flat_cons]; simp [flat_length ds]; omega

theorem flat_get : ∀ (ds : List Dcl) (i : Nat) (d : Dcl), ds[i]? = some d →
    (flat ds)[i * 4]? = some (.string d.p) ∧ (flat ds)[i * 4 + 1]? = some (.string d.s) ∧ (flat ds)[i * 4 + 2]? = some (.string d.r) ∧ (flat ds)[i * 4 + 3]? = some (.bool d.b)
  | [], i, d, h => by simp at h
  | e :: ds, 0, d, h => by simp at h; subst h; rw [flat_cons]; simp
  | e :: ds, i + 1, d, h => by
    have ih := flat_get ds i d (by simpa using h)
    rw [flat_cons, show (i + 1) * 4 = i * 4 + 1 + 1 + 1 + 1 by omega]
    simpa using ih

theorem flat_set2 : ∀ (ds : List Dcl) (i : Nat) (d : Dcl) (v : ByteArray), ds[i]? = some d → (flat ds).set (i * 4 + 2) (.string v) = flat (ds.set i { d with r := v })
  | [], i, d, v, h => by simp at h
  | e :: ds, 0, d, v, h => by simp at h; subst h; simp [flat_cons]
  | e :: ds, i + 1, d, v, h => by
    have ih := flat_set2 ds i d v (by simpa using h)
    rw [flat_cons, show (i + 1) * 4 + 2 = (i * 4 + 2) + 1 + 1 + 1 + 1 by omega]
    simp [flat_cons, ih]

theorem flat_set3 : ∀ (ds : List Dcl) (i : Nat) (d : Dcl) (v : Bool), ds[i]? = some d → (flat ds).set (i * 4 + 3) (.bool v) = flat (ds.set i { d with b := v })
  | [], i, d, v, h => by simp at h
  | e :: ds, 0, d, v, h => by simp at h; subst h; simp [flat_cons]
  | e :: ds, i + 1, d, v, h => by
    have ih := flat_set3 ds i d v (by simpa using h)
    rw [flat_cons, show (i + 1) * 4 + 3 = (i * 4 + 3) + 1 + 1 + 1 + 1 by omega]
    simp [flat_cons, ih]

/-! ### what is left alone -/
/-- Below 'base' nothing turns; of the rest every row that is neither a reader nor a row of declarations stays. -/
structure Fr (base : Nat) (w w' : World) : Prop where
  below : Below base w w'
  tag : ∀ (k : Nat) (arr : Array Value) (t : TypeId) (m : Nat × Nat), w.heap[k]? = some (.cells arr t m) → t ≠ 102 → t ≠ 105 → w'.heap[k]? = some (.cells arr t m)

theorem Fr.refl (base : Nat) (w : World) : Fr base w w := ⟨Below.refl _ _, fun _ _ _ _ h _ _ => h⟩
theorem Fr.trans {base : Nat} {a b c : World} (h : Fr base a b) (k : Fr base b c) : Fr base a c :=
  ⟨h.below.trans k.below, fun i arr t m hi h1 h2 => k.tag i arr t m (h.tag i arr t m hi h1 h2) h1 h2⟩
theorem Fr.drewN {base : Nat} {a w : World} (h : Fr base a w) (n : Nat) : Fr base a (w.drewN n) := h.trans ⟨⟨rfl, rfl, rfl, Nat.le_refl _, fun _ _ => rfl⟩, fun _ _ _ _ h _ _ => h⟩
theorem Fr.alloc {base : Nat} {a w : World} (h : Fr base a w) (hB : base ≤ w.heap.size) (o : Obj) : Fr base a (w.alloc o) :=
  h.trans ⟨(Below.refl _ _).alloc hB o, fun k arr t m hk _ _ => by rw [Below.heap_alloc w o k (Array.getElem?_eq_some_iff.1 hk).1]; exact hk⟩
theorem Fr.grown {base : Nat} {a w w' : World} {row : Option Nat} (h : Fr base a w) (hg : w.grownBy w' row) (hB : base ≤ w.heap.size)
    (hr : ∀ k, row = some k → base ≤ k ∧ (∀ arr t m, w.heap[k]? = some (.cells arr t m) → t = 102 ∨ t = 105)) : Fr base a w' :=
  h.trans ⟨(Below.refl _ _).grown hg hB (fun k hk => (hr k hk).1), fun k arr t m hk h1 h2 => by
    rw [hg.block k (Array.getElem?_eq_some_iff.1 hk).1 (fun e => by
      rcases (hr k e.symm).2 arr t m hk with h | h
      · exact h1 h
      · exact h2 h)]
    exact hk⟩
theorem Fr.setCell {base : Nat} {a w : World} (h : Fr base a w) {b o : Nat} {arr : Array Value} {t : TypeId} {m : Nat × Nat} (hb : w.heap[b]? = some (.cells arr t m)) (ht : t = 102 ∨ t = 105) (hB : base ≤ b) (u : Value) : Fr base a (w.setCell ⟨b, o, none⟩ u) :=
  h.trans ⟨(Below.refl _ _).setCell hB u, fun k arr' t' m' hk h1 h2 => by
    rw [Below.heap_setCell _ _ _ _ (fun e => by
      simp only at e
      subst e
      rw [hb] at hk
      simp at hk
      rcases ht with ht | ht
      · exact h1 (hk.2.1 ▸ ht)
      · exact h2 (hk.2.1 ▸ ht))]
    exact hk⟩
theorem Fr.turned {base : Nat} {a w w' : World} {b : Nat} (h : Fr base a w) (ht : w.mapTurned w' b) (hB : base ≤ b) (hs : base ≤ w.heap.size) : Fr base a w' := by
  have hg := ht.grown
  obtain ⟨es, clock, es', clock', hb, _⟩ := ht
  exact h.grown hg hs (fun k hk => by cases hk; exact ⟨hB, fun arr t m hk => by rw [hb] at hk; simp at hk⟩)

/-! ### the reader's block -/
def RdBlk (w : World) (r : Nat) (ov : Value) (s : ByteArray) (dv : Value) (mv : Option Nat) : Prop :=
  ∃ arr : Array Value, w.heap[r]? = some (.cells arr 105 (0, 0)) ∧ arr.size = 117 ∧ arr[7]? = some ov ∧ arr[8]? = some (.slice none 0 0) ∧ arr[10]? = some (.string s) ∧ arr[11]? = some dv ∧ arr[12]? = some (.map mv)

section
variable {w : World} {r : Nat} {ov : Value} {s : ByteArray} {dv : Value} {mv : Option Nat}
theorem RdBlk.c7 (h : RdBlk w r ov s dv mv) : w.cell? ⟨r, 7, none⟩ = some ov := by obtain ⟨arr, hb, _, h7, _⟩ := h; rw [cell_of_row w r 7 arr 105 _ hb]; exact h7
theorem RdBlk.c8 (h : RdBlk w r ov s dv mv) : w.cell? ⟨r, 8, none⟩ = some (.slice none 0 0) := by obtain ⟨arr, hb, _, _, h8, _⟩ := h; rw [cell_of_row w r 8 arr 105 _ hb]; exact h8
theorem RdBlk.c10 (h : RdBlk w r ov s dv mv) : w.cell? ⟨r, 10, none⟩ = some (.string s) := by obtain ⟨arr, hb, _, _, _, h10, _⟩ := h; rw [cell_of_row w r 10 arr 105 _ hb]; exact h10
theorem RdBlk.c11 (h : RdBlk w r ov s dv mv) : w.cell? ⟨r, 11, none⟩ = some dv := by obtain ⟨arr, hb, _, _, _, _, h11, _⟩ := h; rw [cell_of_row w r 11 arr 105 _ hb]; exact h11
theorem RdBlk.c12 (h : RdBlk w r ov s dv mv) : w.cell? ⟨r, 12, none⟩ = some (.map mv) := by obtain ⟨arr, hb, _, _, _, _, _, h12⟩ := h; rw [cell_of_row w r 12 arr 105 _ hb]; exact h12
theorem RdBlk.fz (h : RdBlk w r ov s dv mv) (j : Nat) : w.frozen? ⟨r, j, none⟩ = false := by obtain ⟨arr, hb, _⟩ := h; exact frozen_of_row w r j arr 105 hb
theorem RdBlk.tag (h : RdBlk w r ov s dv mv) : ∃ arr, w.heap[r]? = some (.cells arr 105 (0, 0)) := by obtain ⟨arr, hb, _⟩ := h; exact ⟨arr, hb⟩
theorem RdBlk.lt (h : RdBlk w r ov s dv mv) : r < w.heap.size := by obtain ⟨arr, hb, _⟩ := h; exact (Array.getElem?_eq_some_iff.1 hb).1
theorem RdBlk.kept {w' : World} (h : RdBlk w r ov s dv mv) (hk : w'.heap[r]? = w.heap[r]?) : RdBlk w' r ov s dv mv := by
  obtain ⟨arr, hb, rest⟩ := h; exact ⟨arr, by rw [hk]; exact hb, rest⟩
theorem RdBlk.set7 (h : RdBlk w r ov s dv mv) (v : Value) : RdBlk (w.setCell ⟨r, 7, none⟩ v) r v s dv mv := by
  obtain ⟨arr, hb, hz, h7, h8, h10, h11, h12⟩ := h
  exact ⟨_, heap_setCell_same w r 7 arr 105 v hb, by simpa using hz, by simp [hz], by simpa using h8, by simpa using h10, by simpa using h11, by simpa using h12⟩
theorem RdBlk.set10 (h : RdBlk w r ov s dv mv) (v : ByteArray) : RdBlk (w.setCell ⟨r, 10, none⟩ (.string v)) r ov v dv mv := by
  obtain ⟨arr, hb, hz, h7, h8, h10, h11, h12⟩ := h
  exact ⟨_, heap_setCell_same w r 10 arr 105 _ hb, by simpa using hz, by simpa using h7, by simpa using h8, by simp [hz], by simpa using h11, by simpa using h12⟩
theorem RdBlk.set11 (h : RdBlk w r ov s dv mv) (v : Value) : RdBlk (w.setCell ⟨r, 11, none⟩ v) r ov s v mv := by
  obtain ⟨arr, hb, hz, h7, h8, h10, h11, h12⟩ := h
  exact ⟨_, heap_setCell_same w r 11 arr 105 _ hb, by simpa using hz, by simpa using h7, by simpa using h8, by simpa using h10, by simp [hz], by simpa using h12⟩
theorem RdBlk.set12 (h : RdBlk w r ov s dv mv) (v : Option Nat) : RdBlk (w.setCell ⟨r, 12, none⟩ (.map v)) r ov s dv v := by
  obtain ⟨arr, hb, hz, h7, h8, h10, h11, h12⟩ := h
  exact ⟨_, heap_setCell_same w r 12 arr 105 _ hb, by simpa using hz, by simpa using h7, by simpa using h8, by simpa using h10, by simpa using h11, by simp [hz]⟩
end

/-- The zero value of the reader's struct. -/
theorem zero105 : ∃ cs : Array Value, (∀ w, (zeroValue 105).run Try.prog w = .ok (.agg cs) w) ∧ cs.size = 117 ∧ cs[7]? = some (.slice none 0 0) ∧ cs[8]? = some (.slice none 0 0) ∧ cs[11]? = some (.slice none 0 0) ∧ cs[12]? = some (.map none) :=
  ⟨match Try.prog.info? 105 with
    | some i => (match i.zero with | some (.agg cs) => cs | _ => #[])
    | none => #[], fun w => by kernel_rfl, by kernel_rfl, by kernel_rfl, by kernel_rfl, by kernel_rfl, by kernel_rfl⟩

set_option maxHeartbeats 400000 in
set_option maxRecDepth 100000 in
theorem newReader_any (s : ByteArray) (w : World) :
    Calls Try.prog 9 #[.string s] w fun e w' => e = .returned (.pointer (some ⟨w.heap.size, 0, none⟩)) ∧ RdBlk w' w.heap.size (.slice none 0 0) s (.slice none 0 0) none ∧ Fr w.heap.size w w' := by
  obtain ⟨cs, hz, h0, h7, h8, h11, h12⟩ := zero105
  have hsz : ¬ cs.size < 11 := by omega
  have HR : Hid (RdBlk (w.alloc (.cells (cs.setIfInBounds 10 (.string s)) 105)) w.heap.size (.slice none 0 0) s (.slice none 0 0) none) :=
    ⟨_, heap_alloc_new w _, by simpa using h0, by simpa using h7, by simpa using h8, by simp [h0], by simpa using h11, by simpa using h12⟩
  have HF : Hid (Fr w.heap.size w (w.alloc (.cells (cs.setIfInBounds 10 (.string s)) 105))) := (Fr.refl _ _).alloc (Nat.le_refl _) _
  clear h0 h7 h8 h11 h12
  go_enter Try.func9, Try.ntmps9
  go_wp2
  go_ret
  exact ⟨rfl, HR.out, HF.out⟩

end Go.Proofs.Qxb6601967a
