/-
  bytes.IndexByte, bytes.Index and bytes.Cut at a separator of one byte.
-/
import Derived.Test.Qxb6601856aLeaf2
import Derived.Lib.BytesEntry
import Derived.Laws.Externs
namespace Go.Proofs.Qxb6601856a
set_option linter.unusedVariables false
set_option linter.unusedSimpArgs false
open Go.RowKit

set_option maxHeartbeats 800000 in
set_option maxRecDepth 100000 in
theorem indexByte_any (b o n c : Nat) (xs : List Int) (cv : Int) (w : World) (hl : xs.length = n) (hc : ∀ i, i < n → w.cell? ⟨b, o + i, none⟩ = some (.int .u8 (xs.getD i 0))) :
    Calls Try.prog 30 #[.slice (some ⟨b, o, none⟩) n c, .int .u8 cv] w fun e w' => e = .returned (.int .i64 (Lib.indexByte (Lib.bytesOf xs) cv.toNat.toUInt8)) ∧ w' = w := by
  go_enter Try.func30, Try.ntmps30
  go_wp2
  rw [run_callFunc_extern Try.func36 (by kernel_rfl) (by kernel_rfl) (by kernel_rfl) (e := Extern.BytealgIndexByte.indexByte) (by kernel_rfl), Lib.run_indexByteSlice w b o n c xs hl hc cv]
  simp only [Result.andThen]
  rw [Oper.upon_value]
  go_wp2
  go_ret
  exact ⟨rfl, rfl⟩

set_option maxHeartbeats 800000 in
set_option maxRecDepth 1000000 in
theorem index_one (b o n c b2 : Nat) (xs : List Int) (cv : Int) (w : World) (hl : xs.length = n) (hc : ∀ i, i < n → w.cell? ⟨b, o + i, none⟩ = some (.int .u8 (xs.getD i 0)))
    (hc2 : w.cell? ⟨b2, 0, none⟩ = some (.int .u8 cv)) :
    Calls Try.prog 28 #[.slice (some ⟨b, o, none⟩) n c, .slice (some ⟨b2, 0, none⟩) 1 1] w fun e w' => e = .returned (.int .i64 (Lib.indexByte (Lib.bytesOf xs) cv.toNat.toUInt8)) ∧ w' = w := by
  have hcon := indexByte_any b o n c xs cv w hl hc
  clear hc
  go_enter Try.func28, Try.ntmps28
  go_wp2_with (go_at_call 30; refine hcon.mono ?_; rintro e w' ⟨rfl, rfl⟩)
  go_ret
  exact ⟨rfl, rfl⟩

set_option maxHeartbeats 800000 in
/-- The separator stands at i. -/
theorem cut_hit (b o n c b2 i o' m d : Nat) (xs : List Int) (cv : Int) (w : World) (hl : xs.length = n) (hnc : n ≤ c) (hn : n ≤ 2097152) (hc : ∀ i, i < n → w.cell? ⟨b, o + i, none⟩ = some (.int .u8 (xs.getD i 0)))
    (hc2 : w.cell? ⟨b2, 0, none⟩ = some (.int .u8 cv)) (hi : Lib.indexByte (Lib.bytesOf xs) cv.toNat.toUInt8 = (i : Int)) (hin : i + 1 < c) (hin2 : i < n) (ho : o + (i + 1) = o') (hm : n - (i + 1) = m) (hd : c - (i + 1) = d) :
    Calls Try.prog 25 #[.slice (some ⟨b, o, none⟩) n c, .slice (some ⟨b2, 0, none⟩) 1 1] w fun e w' =>
      e = .returned (.tuple #[.slice (some ⟨b, o, none⟩) i c, .slice (some ⟨b, o', none⟩) m d, .bool true]) ∧ ∃ q, w' = w.drewN q := by
  have hcon := index_one b o n c b2 xs cv w hl hc hc2
  rw [hi] at hcon
  subst ho hm hd
  have hne : ¬ c = i + 1 := by omega
  clear hc hc2 hi
  go_enter Try.func25, Try.ntmps25
  go_wp2_with (go_at_call 28; refine hcon.mono ?_; rintro e w' ⟨rfl, rfl⟩)
  go_region
  all_goals go_wp2
  all_goals go_ret3
  all_goals exact ⟨by simp [hne], _, rfl⟩

end Go.Proofs.Qxb6601856a
