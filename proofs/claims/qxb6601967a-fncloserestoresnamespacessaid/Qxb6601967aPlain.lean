/-
  The map of prefixes and the declarations' records as plain functions of the list of declarations.
-/
import Derived.Test.Qxb6601967aRd
namespace Go.Proofs.Qxb6601967a
set_option linter.unusedVariables false
set_option linter.unusedSimpArgs false

def mt : ByteArray := ⟨#[]⟩

/-- One declaration taken into the map: what it holds, how many entries. -/
def step (x : (ByteArray → Option ByteArray) × Nat) (d : Dcl) : (ByteArray → Option ByteArray) × Nat :=
  if d.p = mt then x else (upd x.1 d.p (some d.s), if (x.1 d.p).isSome then x.2 else x.2 + 1)
def st (ds : List Dcl) : (ByteArray → Option ByteArray) × Nat := ds.foldl step (fun _ => none, 0)

theorem st_snoc (ds : List Dcl) (d : Dcl) : st (ds ++ [d]) = step (st ds) d := by simp [st]

/-- What declaration i records once the map is built. -/
def recAt (ds : List Dcl) (i : Nat) (d : Dcl) : Dcl :=
  if d.p = mt then d else { d with r := ((st (ds.take i)).1 d.p).getD mt, b := ((st (ds.take i)).1 d.p).isSome }

def recs (ds : List Dcl) : Nat → List Dcl
  | 0 => ds
  | k + 1 => match ds[k]? with
    | some d => (recs ds k).set k (recAt ds k d)
    | none => recs ds k

theorem recs_length (ds : List Dcl) : ∀ k, (recs ds k).length = ds.length
  | 0 => rfl
  | k + 1 => by
    unfold recs
    split <;> simp [recs_length ds k]

theorem recs_get (ds : List Dcl) (i : Nat) : ∀ k, (recs ds k)[i]? = (ds[i]?).map (fun d => if i < k then recAt ds i d else d)
  | 0 => by simp [recs]
  | k + 1 => by
    have ih := recs_get ds i k
    unfold recs
    cases hk : ds[k]? with
    | none =>
      simp only
      rw [ih]
      have hkl : ds.length ≤ k := List.getElem?_eq_none_iff.1 hk
      by_cases hi : i < ds.length
      · simp [List.getElem?_eq_getElem hi, show i < k by omega, show i < k + 1 by omega]
      · simp [List.getElem?_eq_none_iff.2 (Nat.le_of_not_lt hi)]
    | some d =>
      have hkl : k < ds.length := (List.getElem?_eq_some_iff.1 hk).1
      simp only
      rw [List.getElem?_set]
      by_cases e : k = i
      · subst e
        rw [if_pos rfl, if_pos (by rw [recs_length]; exact hkl), hk]
        simp
      · rw [if_neg e, ih]
        by_cases hi : i < k
        · simp [hi, show i < k + 1 by omega]
        · simp [hi, show ¬ i < k + 1 by omega]

theorem recs_step (ds : List Dcl) (k : Nat) (d : Dcl) (h : ds[k]? = some d) : recs ds (k + 1) = (recs ds k).set k (recAt ds k d) := by
  show (match ds[k]? with | some d => (recs ds k).set k (recAt ds k d) | none => recs ds k) = _
  rw [h]

theorem take_step (ds : List Dcl) (k : Nat) (d : Dcl) (h : ds[k]? = some d) : ds.take (k + 1) = ds.take k ++ [d] := by
  obtain ⟨hk, rfl⟩ := List.getElem?_eq_some_iff.1 h
  rw [List.take_succ_eq_append_getElem hk]

theorem recs_at (ds : List Dcl) (k : Nat) (d : Dcl) (h : ds[k]? = some d) : (recs ds k)[k]? = some d := by
  rw [recs_get, h]; simp

theorem set_same {α : Type} (l : List α) (k : Nat) (d : α) (h : l[k]? = some d) : l.set k d = l := by
  obtain ⟨hk, rfl⟩ := List.getElem?_eq_some_iff.1 h
  exact List.set_getElem_self hk

/-- A default declaration leaves all as it is. -/
theorem recs_skip (ds : List Dcl) (k : Nat) (d : Dcl) (h : ds[k]? = some d) (hp : d.p = mt) : recs ds (k + 1) = recs ds k ∧ st (ds.take (k + 1)) = st (ds.take k) := by
  refine ⟨?_, ?_⟩
  · rw [recs_step ds k d h]
    have : recAt ds k d = d := by unfold recAt; rw [if_pos hp]
    rw [this]
    exact set_same _ _ _ (recs_at ds k d h)
  · rw [take_step ds k d h, st_snoc]
    unfold step
    rw [if_pos hp]

theorem recs_take (ds : List Dcl) (k : Nat) (d : Dcl) (h : ds[k]? = some d) (hp : d.p ≠ mt) :
    recs ds (k + 1) = (recs ds k).set k { d with r := ((st (ds.take k)).1 d.p).getD mt, b := ((st (ds.take k)).1 d.p).isSome } ∧
    (st (ds.take (k + 1))).1 = upd (st (ds.take k)).1 d.p (some d.s) ∧ (st (ds.take (k + 1))).2 = (if ((st (ds.take k)).1 d.p).isSome then (st (ds.take k)).2 else (st (ds.take k)).2 + 1) := by
  refine ⟨?_, ?_⟩
  · rw [recs_step ds k d h]
    unfold recAt
    rw [if_neg hp]
  · rw [take_step ds k d h, st_snoc]
    unfold step
    rw [if_neg hp]
    exact ⟨rfl, rfl⟩

theorem toList_data (s : ByteArray) : s.toList = s.data.toList := ByteArray.toList_eq s
theorem isEmpty_mt {s : ByteArray} (h : s = mt) : s.toList.isEmpty = true := by rw [toList_data, h]; rfl
theorem isEmpty_ne {s : ByteArray} (h : s ≠ mt) : s.toList.isEmpty = false := by
  rw [toList_data]
  cases e : s.data.toList with
  | nil => exact absurd (bytes_ext (a := s) (b := mt) (by rw [e]; rfl)) h
  | cons a l => rfl
theorem eqS_true {a b : ByteArray} (h : a = b) : (a.toList == b.toList) = true := by rw [h]; simp
theorem eqS_false {a b : ByteArray} (h : a ≠ b) : (a.toList == b.toList) = false := by
  rw [toList_data, toList_data, beq_eq_false_iff_ne]
  exact fun e => h (bytes_ext e)

end Go.Proofs.Qxb6601967a
