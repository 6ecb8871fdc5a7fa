/-
  A map from strings to strings, told by a plain function and its number of entries.
-/
import Derived.Test.Qxb6601967aProg
import Derived.WalkKit
import Derived.Maps.OwnSet
import Derived.Maps.StringElems
namespace Go.Proofs.Qxb6601967a
set_option linter.unusedVariables false
set_option linter.unusedSimpArgs false
open Go.RowKit Go.Maps

theorem keyed9 : Keyed Try.prog 9 := string_keyed Try.underlying9
theorem zero9 (w : World) : (zeroValue 9).run Try.prog w = .ok (.string ⟨#[]⟩) w := by kernel_rfl

theorem bytes_ext {a b : ByteArray} (h : a.data.toList = b.data.toList) : a = b := by
  obtain ⟨⟨a⟩⟩ := a
  obtain ⟨⟨b⟩⟩ := b
  simpa using h

def lk (s : ByteArray) : Lit := .string s.data.toList
def lv (s : ByteArray) : DataW Unit := .lit (.string s.data.toList)

theorem lk_ne {a b : ByteArray} (h : a ≠ b) : lk a ≠ lk b := fun e => h (bytes_ext (by simpa [lk] using e))
theorem isKeyLit (s : ByteArray) : WideAt.IsKeyLit (lk s) := by simp [WideAt.IsKeyLit, lk]

/-- The map at block b holds just what f says; sz: how many entries. -/
def MapIs (w : World) (b n : Nat) (f : ByteArray → Option ByteArray) (sz : Nat) : Prop :=
  ∃ D : DataW Unit, w.ownsMap Try.prog 9 (plainElem Try.prog 9) b n D ∧ (∀ k, Maps.has D (lk k) = (f k).isSome) ∧ (∀ k v, f k = some v → ∀ z, D.atKey (lk k) z = lv v) ∧ Maps.size D = sz

def upd (f : ByteArray → Option ByteArray) (k : ByteArray) (v : Option ByteArray) : ByteArray → Option ByteArray := fun x => if x = k then v else f x

theorem key9 {s : ByteArray} (hs : s.size ≤ maxLen) : keyOf Try.prog 9 (.string s) = some (lk s) := WideMaps.keyOf_string_mk Try.underlying9 hs
theorem val9 {s : ByteArray} (hs : s.size ≤ maxLen) : plainElem (H := Unit) Try.prog 9 (.string s) = some (lv s, []) := plainElem_string Try.underlying9 hs

theorem MapIs.made (w : World) : MapIs (w.alloc (.map #[] 0)) w.heap.size 0 (fun _ => none) 0 :=
  ⟨.map [], World.ownsMap_made _ _ _ _, fun _ => rfl, fun _ _ h => by simp at h, rfl⟩

theorem MapIs.look {w : World} {b n sz : Nat} {f : ByteArray → Option ByteArray} (h : MapIs w b n f sz) {s : ByteArray} (hs : s.size ≤ maxLen) :
    (Instr.lookup 68 (.map (some b)) (.string s) true).run Try.prog w = .ok (.tuple #[.string ((f s).getD ⟨#[]⟩), .bool (f s).isSome]) w := by
  obtain ⟨D, hown, hhas, hat, _⟩ := h
  obtain ⟨v, ps, hrun, hv⟩ := hown.look_ok keyed9 Try.underlying68 (zero9 w) (val9 (s := ⟨#[]⟩) (by simp [ByteArray.size])) (key9 hs)
  rw [hrun, hhas]
  obtain ⟨t, rfl, ht, _⟩ := plainElem_string_inv Try.underlying9 hv
  have et : t = (f s).getD ⟨#[]⟩ := by
    cases hf : f s with
    | none =>
      have h0 := hhas s
      rw [hf] at h0
      rw [Maps.atKey_of_not_has h0] at ht
      simp only [lv, Prod.mk.injEq, DataW.lit.injEq, Lit.string.injEq] at ht
      exact bytes_ext ht.1.symm
    | some x =>
      rw [hat s x hf] at ht
      simp only [lv, Prod.mk.injEq, DataW.lit.injEq, Lit.string.injEq] at ht
      exact bytes_ext ht.1.symm
  rw [et]

theorem MapIs.len {w : World} {b n sz : Nat} {f : ByteArray → Option ByteArray} (h : MapIs w b n f sz) (ty : TypeId) :
    (Builtin.len_ #[68] ty #[.map (some b)]).run Try.prog w = .ok (.int .i64 sz) w := by
  obtain ⟨D, hown, _, _, rfl⟩ := h
  exact hown.len Try.underlying68 ty

theorem MapIs.store {w : World} {b n sz : Nat} {f : ByteArray → Option ByteArray} (h : MapIs w b n f sz) (hn : n < maxLen) {s v : ByteArray} (hs : s.size ≤ maxLen) (hv : v.size ≤ maxLen) :
    ∃ w', (Instr.mapUpdate 68 (.map (some b)) (.string s) (.string v)).run Try.prog w = .ok () w' ∧ MapIs w' b (n + 1) (upd f s (some v)) (if (f s).isSome then sz else sz + 1) ∧ w.mapTurned w' b := by
  obtain ⟨D, hown, hhas, hat, rfl⟩ := h
  obtain ⟨w', hrun, hown', hturn⟩ := hown.store keyed9 Try.underlying68 hn (key9 hs) (val9 hv)
  refine ⟨w', hrun, ⟨_, hown', fun k => ?_, fun k x hk z => ?_, ?_⟩, hturn⟩
  · unfold upd
    by_cases e : k = s
    · subst e
      rw [if_pos rfl, Maps.has_put_same hown.isMap (isKeyLit _)]
      rfl
    · rw [if_neg e, Maps.has_put_other (lk_ne e)]
      exact hhas k
  · unfold upd at hk
    by_cases e : k = s
    · subst e
      rw [if_pos rfl] at hk
      obtain rfl := Option.some.inj hk
      rw [Maps.atKey_put_same hown.isMap (isKeyLit _)]
    · rw [if_neg e] at hk
      rw [Maps.atKey_put_other (lk_ne e)]
      exact hat k x hk z
  · rw [Maps.size_put (hown.tidy keyed9), hhas]

theorem MapIs.drop {w : World} {b n sz : Nat} {f : ByteArray → Option ByteArray} (h : MapIs w b n f sz) {s : ByteArray} (hs : s.size ≤ maxLen) (ty : TypeId) :
    ∃ w', (Builtin.delete_ #[68, 9] ty #[.map (some b), .string s]).run Try.prog w = .ok (.tuple #[]) w' ∧ MapIs w' b n (upd f s none) (sz - if (f s).isSome then 1 else 0) ∧ w.mapTurned w' b := by
  obtain ⟨D, hown, hhas, hat, rfl⟩ := h
  obtain ⟨w', hrun, hown', hturn⟩ := hown.drop keyed9 Try.underlying68 (key9 hs) ty
  refine ⟨w', hrun, ⟨_, hown', fun k => ?_, fun k x hk z => ?_, ?_⟩, hturn⟩
  · unfold upd
    by_cases e : k = s
    · subst e
      rw [if_pos rfl, Maps.has_del_same]
      rfl
    · rw [if_neg e, Maps.has_del_other (lk_ne e)]
      exact hhas k
  · unfold upd at hk
    by_cases e : k = s
    · subst e
      rw [if_pos rfl] at hk
      simp at hk
    · rw [if_neg e] at hk
      rw [Maps.atKey_del_other (lk_ne e)]
      exact hat k x hk z
  · have := Maps.size_del (k := lk s) (hown.tidy keyed9)
    rw [hhas] at this
    omega

theorem MapIs.kept {w w' : World} {b n sz : Nat} {f : ByteArray → Option ByteArray} (h : MapIs w b n f sz) (hb : w'.heap[b]? = w.heap[b]?) : MapIs w' b n f sz := by
  obtain ⟨D, ⟨es, clock, h1, h2⟩, h3⟩ := h
  exact ⟨D, ⟨es, clock, by rw [hb]; exact h1, h2⟩, h3⟩

theorem MapIs.block {w : World} {b n sz : Nat} {f : ByteArray → Option ByteArray} (h : MapIs w b n f sz) : ∃ es clock, w.heap[b]? = some (.map es clock) := by
  obtain ⟨D, ⟨es, clock, h1, _⟩, _⟩ := h
  exact ⟨es, clock, h1⟩

end Go.Proofs.Qxb6601967a
