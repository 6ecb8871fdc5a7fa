/-
  mayTurnReady at a line that holds the needle first behind P, told of bytes.Index by a premise that the shelf pays.
-/
import Derived.Test.Qxb6602174aFind
import Derived.Test.Qxb6602174aKey
import Derived.Lib.SlBytesConst
namespace Go.Proofs.Qxb6602174a
set_option linter.unusedVariables false
set_option linter.unusedSimpArgs false
open Go.RowKit

/-- What bytes.Index says at the needle, internal/bytealg.MaxLen's cell (block G) holding whatever number. -/
def IndexSays (G : Nat) : Prop := ∀ (b b2 c n : Nat) (l : List UInt8) (m : Int) (w : World), At w b 0 l → At w b2 0 nd → l.length = n → n ≤ c → n < 4294967281 → w.cell? ⟨G, 0, none⟩ = some (.int .i64 m) →
  Calls Try.prog 25 #[.slice (some ⟨b, 0, none⟩) n c, .slice (some ⟨b2, 0, none⟩) 26 26] w fun e w' => e = .returned (.int .i64 (Lib.index l nd)) ∧ ∃ q, w' = w.drewN q

def tr : List UInt8 := [84, 114, 117, 101, 34]
def fa : List UInt8 := [70, 97, 108, 115, 101, 34]
def stL (st : Bool) : List UInt8 := if st then tr else fa

theorem nd_block (w : World) : At (w.alloc (.cells (nd.map fun c => Value.int .u8 (c.toNat : Int)).toArray 5 (26, 27))) w.heap.size 0 nd := fun i hi => by
  rw [Nat.zero_add, World.cell?_alloc_mark]
  simp [List.getD, hi]

theorem not_tr (T : List UInt8) : fa.isPrefixOf (tr ++ T) = false := by simp [fa, tr, List.isPrefixOf]
theorem not_fa (T : List UInt8) : tr.isPrefixOf (fa ++ T) = false := by simp [fa, tr, List.isPrefixOf]

set_option maxHeartbeats 1000000 in
set_option maxRecDepth 100000 in
theorem mayTurn (G : Nat) (hix : IndexSays G) (b c n : Nat) (P T : List UInt8) (st ready : Bool) (m : Int) (w : World) (h : At w b 0 (P ++ (nd ++ (stL st ++ T)))) (hP : ∀ i, i + 26 ≤ P.length → Lib.occAt P nd i = false)
    (hn : P.length + (26 + ((stL st).length + T.length)) = n) (hnc : n < c) (hc : c ≤ 2097152) (hm : w.cell? ⟨G, 0, none⟩ = some (.int .i64 m)) (hb : b < w.heap.size) :
    Calls Try.prog 22 #[.slice (some ⟨b, 0, none⟩) n c, .bool ready] w fun e w' => e = .returned (.bool (!(st == ready))) ∧ Below w.heap.size w w' := by
  have kc := fun (w : World) (C : Array Value) (n c : Nat) => Lib.run_convert_bytes_const (P := Try.prog) w 22 5 C n c Try.underlying22 Try.underlying5
  have hcon := hix b w.heap.size c n _ m (w.alloc (.cells (nd.map fun c => Value.int .u8 (c.toNat : Int)).toArray 5 (26, 27))) (h.alloc hb _) (nd_block w) (by simp [nd]; omega) (by omega) (by omega) (Lib.cell?_alloc_marked _ hm)
  rw [index_line P (stL st ++ T) hP] at hcon
  have h2 : At w b (P.length + 26) (stL st ++ T) := by
    have h' : At w b 0 ((P ++ nd) ++ (stL st ++ T)) := by simpa using h
    have h'' := h'.right
    rw [Nat.zero_add, show (P ++ nd).length = P.length + 26 by simp [nd]] at h''
    exact h''
  have HB : Hid (Below w.heap.size w (w.alloc (.cells (nd.map fun c => Value.int .u8 (c.toNat : Int)).toArray 5 (26, 27)))) := (Below.refl _ w).alloc (Nat.le_refl _) _
  have h3 : At (w.alloc (.cells (nd.map fun c => Value.int .u8 (c.toNat : Int)).toArray 5 (26, 27))) b (P.length + 26) (stL st ++ T) := h2.alloc hb _
  have hlen : (stL st ++ T).length = n - (P.length + 26) := by simp; omega
  have H3 : Hid (At (w.alloc (.cells (nd.map fun c => Value.int .u8 (c.toNat : Int)).toArray 5 (26, 27))) b (P.length + 26) (stL st ++ T)) := h3
  have HL : Hid ((stL st ++ T).length = n - (P.length + 26)) := hlen
  have HN : Hid (P.length + (26 + ((stL st).length + T.length)) = n) := hn
  have hlt : P.length + 26 < c := by omega
  have hpn : P.length + 26 ≤ n := by omega
  clear h h2 h3 hm hP hn hlen hix
  generalize P.length = p at *
  cases ready with
  | true =>
    have hcat : (⟨#[84, 114, 117, 101]⟩ : ByteArray) ++ ⟨#[34]⟩ = ⟨#[84, 114, 117, 101, 34]⟩ := by rfl
    have c2 := fun q => (show Calls Try.prog 27 #[.slice (some ⟨b, p + 26, none⟩) (n - (p + 26)) (c - (p + 26)), .string ⟨#[84, 114, 117, 101, 34]⟩] ((w.alloc (.cells (nd.map fun c => Value.int .u8 (c.toNat : Int)).toArray 5 (26, 27))).drewN q) fun e w' =>
        (∃ v, e = .returned (.tuple #[v, .bool st])) ∧ w' = ((w.alloc (.cells (nd.map fun c => Value.int .u8 (c.toNat : Int)).toArray 5 (26, 27))).drewN q) from by
      cases st with
      | true =>
        refine (cutPrefix_any b (p + 26) (c - (p + 26)) (n - (p + 26)) _ _ ⟨#[84, 114, 117, 101, 34]⟩ T _ (H3.out.drewN q) ?_ (by omega) ?_ (by omega) rfl rfl).mono ?_
        · rw [← HL.out]; show 5 + T.length = _; simp [stL, tr]; omega
        · have := HL.out; simp [stL, tr] at this; show 5 < _; omega
        · rintro e w' ⟨rfl, rfl⟩; exact ⟨⟨_, rfl⟩, rfl⟩
      | false => exact cutPrefix_no b (p + 26) (c - (p + 26)) (n - (p + 26)) ⟨#[84, 114, 117, 101, 34]⟩ _ _ (H3.out.drewN q) HL.out (by omega) (by omega) (not_fa T))
    have C2 : Hid _ := c2
    clear c2 H3 HL HN
    simp only [nd, List.map_cons, List.map_nil] at hcon HB C2
    go_enter Try.func22, Try.ntmps22
    go_wp2_with fail
    refine hcon.mono ?_
    rintro e w' ⟨rfl, q, hw'⟩
    subst hw'
    go_wp2_with fail
    refine (C2.out q).mono ?_
    rintro e w' ⟨⟨v, rfl⟩, hw'⟩
    subst hw'
    go_wp2_with fail
    go_ret
    exact ⟨by cases st <;> rfl, HB.out.trans ⟨rfl, rfl, rfl, Nat.le_refl _, fun _ _ => rfl⟩⟩
  | false =>
    have hcat : (⟨#[70, 97, 108, 115, 101]⟩ : ByteArray) ++ ⟨#[34]⟩ = ⟨#[70, 97, 108, 115, 101, 34]⟩ := by rfl
    have c2 := fun q => (show Calls Try.prog 27 #[.slice (some ⟨b, p + 26, none⟩) (n - (p + 26)) (c - (p + 26)), .string ⟨#[70, 97, 108, 115, 101, 34]⟩] ((w.alloc (.cells (nd.map fun c => Value.int .u8 (c.toNat : Int)).toArray 5 (26, 27))).drewN q) fun e w' =>
        (∃ v, e = .returned (.tuple #[v, .bool (!st)])) ∧ w' = ((w.alloc (.cells (nd.map fun c => Value.int .u8 (c.toNat : Int)).toArray 5 (26, 27))).drewN q) from by
      cases st with
      | false =>
        refine (cutPrefix_any b (p + 26) (c - (p + 26)) (n - (p + 26)) _ _ ⟨#[70, 97, 108, 115, 101, 34]⟩ T _ (H3.out.drewN q) ?_ (by omega) ?_ (by omega) rfl rfl).mono ?_
        · rw [← HL.out]; show 6 + T.length = _; simp [stL, fa]; omega
        · have := HL.out; simp [stL, fa] at this; show 6 < _; omega
        · rintro e w' ⟨rfl, rfl⟩; exact ⟨⟨_, rfl⟩, rfl⟩
      | true => exact cutPrefix_no b (p + 26) (c - (p + 26)) (n - (p + 26)) ⟨#[70, 97, 108, 115, 101, 34]⟩ _ _ (H3.out.drewN q) HL.out (by omega) (by omega) (not_tr T))
    have C2 : Hid _ := c2
    clear c2 H3 HL HN
    simp only [nd, List.map_cons, List.map_nil] at hcon HB C2
    go_enter Try.func22, Try.ntmps22
    go_wp2_with fail
    refine hcon.mono ?_
    rintro e w' ⟨rfl, q, hw'⟩
    subst hw'
    go_wp2_with fail
    refine (C2.out q).mono ?_
    rintro e w' ⟨⟨v, rfl⟩, hw'⟩
    subst hw'
    go_wp2_with fail
    go_ret
    exact ⟨by cases st <;> rfl, HB.out.trans ⟨rfl, rfl, rfl, Nat.le_refl _, fun _ _ => rfl⟩⟩

end Go.Proofs.Qxb6602174a
