/-
  What bytes.Index says at the needle: the shelf's whole contract at this program.
-/
import Derived.Test.Qxb6602174aReadyTop
import Derived.Test.Qxb6602174aShelf
namespace Go.Proofs.Qxb6602174a
set_option linter.unusedVariables false
set_option linter.unusedSimpArgs false
open Go.RowKit Go.Shelf

theorem nums_byte (l : List UInt8) : ∀ x ∈ (l.map fun c => (c.toNat : Int)), 0 ≤ x ∧ x < 256 := by
  intro x hx
  obtain ⟨c, _, rfl⟩ := List.mem_map.1 hx
  have := c.toNat_lt
  omega

theorem nums_cells {w : World} {b n : Nat} {l : List UInt8} (h : At w b 0 l) (hn : l.length = n) : ∀ i, i < n → w.cell? ((⟨b, 0, none⟩ : Addr).add i) = some (.int .u8 ((l.map fun c => (c.toNat : Int)).getD i 0)) := fun i hi => by
  have e : (⟨b, 0, none⟩ : Addr).add i = ⟨b, 0 + i, none⟩ := by unfold Addr.add; split <;> simp_all
  rw [e, h i (by omega)]
  simp [List.getD, show i < l.length by omega]

theorem index_says : IndexSays (Try.laysM185_ren.g 1) := fun b b2 c n l m w h1 h2 hn hnc hlt hm => by
  have e2 : ∀ i, i < 26 → w.cell? ((⟨b2, 0, none⟩ : Addr).add i) = some (.int .u8 ((nd.map fun c => (c.toNat : Int)).getD i 0)) := nums_cells (n := 26) h2 rfl
  have h := Any.bytes_Index_at (P := Try.prog) (ρ := Try.laysM185_ren) { Try.laysM185 with } ⟨b, 0, none⟩ ⟨b2, 0, none⟩ n c 26 26 (l.map fun c => (c.toNat : Int)) (nd.map fun c => (c.toNat : Int)) m w (by simpa using hn) rfl (nums_byte l) (nums_byte nd) (nums_cells h1 hn) e2 hnc hlt (by decide) hm
  rw [bytesOf_nums, bytesOf_nums] at h
  exact h

end Go.Proofs.Qxb6602174a
