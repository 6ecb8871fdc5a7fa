/-
  Closing an element, plainly: what the loop that walks the declarations back leaves of the default space and of the map.
-/
import Derived.Test.Qxb6601967aNsd
namespace Go.Proofs.Qxb6601967a
set_option linter.unusedVariables false
set_option linter.unusedSimpArgs false
open Go.RowKit Go.Maps

/-- The default space behind the way back over ds (its last declaration first). -/
def unS : List Dcl → ByteArray → ByteArray
  | [], s => s
  | d :: l, s => if d.p = mt then d.r else unS l s

def back1 (x : (ByteArray → Option ByteArray) × Nat) (d : Dcl) : (ByteArray → Option ByteArray) × Nat :=
  if d.p = mt then x else if d.b then (upd x.1 d.p (some d.r), if (x.1 d.p).isSome then x.2 else x.2 + 1) else (upd x.1 d.p none, x.2 - if (x.1 d.p).isSome then 1 else 0)
/-- The map behind the way back. -/
def unM : List Dcl → (ByteArray → Option ByteArray) × Nat → (ByteArray → Option ByteArray) × Nat
  | [], x => x
  | d :: l, x => back1 (unM l x) d

theorem unS_dcls : ∀ (l : List Nd) (cur : ByteArray), unS (dcls l cur) (endS l cur) = cur
  | [], _ => rfl
  | d :: l, cur => by
    show unS (recN d cur :: dcls l (curN d cur)) (endS l (curN d cur)) = cur
    by_cases hp : d.p = mt
    · simp [recN, hp, unS]
    · have e : curN d cur = cur := by simp [curN, hp]
      have hr : (recN d cur).p ≠ mt := by simp [recN, hp]
      rw [e]
      simp only [unS, hr, if_false]
      exact unS_dcls l cur

/-- Records of prefixed declarations do not matter to the default space. -/
theorem unS_alike : ∀ (a b : List Dcl) (s : ByteArray), a.length = b.length → (∀ (i : Nat) (x y : Dcl), a[i]? = some x → b[i]? = some y → x.p = y.p ∧ (x.p = mt → x.r = y.r)) → unS a s = unS b s
  | [], [], s, _, _ => rfl
  | [], _ :: _, s, h, _ => by simp at h
  | _ :: _, [], s, h, _ => by simp at h
  | x :: a, y :: b, s, h, hk => by
    have ih := unS_alike a b s (by simpa using h) (fun i x' y' hx hy => hk (i + 1) x' y' (by simpa using hx) (by simpa using hy))
    obtain ⟨e1, e2⟩ := hk 0 x y rfl rfl
    unfold unS
    by_cases hp : x.p = mt
    · rw [if_pos hp, if_pos (by rw [← e1]; exact hp), e2 hp]
    · rw [if_neg hp, if_neg (by rw [← e1]; exact hp), ih]

theorem recAt_p (ds : List Dcl) (i : Nat) (d : Dcl) : (recAt ds i d).p = d.p ∧ (d.p = mt → (recAt ds i d).r = d.r) := by
  unfold recAt
  by_cases hp : d.p = mt <;> simp [hp]

theorem unS_recs (ds : List Dcl) (k m : Nat) (s : ByteArray) : unS ((recs ds k).drop m) s = unS (ds.drop m) s := by
  refine unS_alike _ _ s (by simp [recs_length]) (fun i x y hx hy => ?_)
  rw [List.getElem?_drop, recs_get] at hx
  rw [List.getElem?_drop] at hy
  rw [hy] at hx
  simp only [Option.map_some, Option.some.injEq] at hx
  subst hx
  obtain ⟨e1, e2⟩ := recAt_p ds (m + i) y
  split
  · exact ⟨e1, fun h => e2 (by rw [← e1]; exact h)⟩
  · exact ⟨rfl, fun _ => rfl⟩

theorem back_step (ds : List Dcl) (i : Nat) (d : Dcl) (x : (ByteArray → Option ByteArray) × Nat) (hx : x = st (ds.take i)) : back1 (step x d) (recAt ds i d) = x := by
  obtain ⟨f, n⟩ := x
  by_cases hp : d.p = mt
  · simp [back1, step, recAt, hp]
  · have hr : recAt ds i d = { d with r := (f d.p).getD mt, b := (f d.p).isSome } := by
      simp only [recAt, hp, if_false]; rw [← hx]
    rw [hr]
    simp only [back1, step, hp, if_false]
    cases hf : f d.p with
    | none =>
      simp only [Option.isSome_none, Bool.false_eq_true, if_false]
      refine Prod.ext ?_ ?_
      · funext k
        simp only [upd]
        by_cases hk : k = d.p
        · rw [if_pos hk, hk, hf]
        · rw [if_neg hk, if_neg hk]
      · simp [upd]
    | some v =>
      simp only [Option.isSome_some, if_true, Option.getD_some]
      refine Prod.ext ?_ ?_
      · funext k
        simp only [upd]
        by_cases hk : k = d.p
        · rw [if_pos hk, hk, hf]
        · rw [if_neg hk, if_neg hk]
      · simp [upd]

theorem unM_recs (ds : List Dcl) : ∀ (c j : Nat), j + c = ds.length → unM ((recs ds ds.length).drop j) (st ds) = st (ds.take j)
  | 0, j, h => by
    rw [List.drop_eq_nil_of_le (by rw [recs_length]; omega), List.take_of_length_le (by omega)]
    rfl
  | c + 1, j, h => by
    have hj : j < ds.length := by omega
    have hd : ds[j]? = some ds[j] := List.getElem?_eq_getElem hj
    have hr : (recs ds ds.length)[j]? = some (recAt ds j ds[j]) := by rw [recs_get, hd]; simp [hj]
    obtain ⟨hj', er⟩ := List.getElem?_eq_some_iff.1 hr
    rw [List.drop_eq_getElem_cons hj', er]
    show back1 (unM ((recs ds ds.length).drop (j + 1)) (st ds)) (recAt ds j ds[j]) = _
    rw [unM_recs ds c (j + 1) (by omega), take_step ds j _ hd, st_snoc]
    exact back_step ds j _ _ rfl

theorem recs_take_head (ds : List Dcl) (m : Nat) (hm : m ≤ ds.length) : (recs ds ds.length).take m = recs (ds.take m) (ds.take m).length := by
  have hl : (ds.take m).length = m := by simp; omega
  apply List.ext_getElem?
  intro i
  rw [List.getElem?_take, recs_get, hl, recs_get]
  by_cases hi : i < m
  · rw [if_pos hi, List.getElem?_take, if_pos hi, List.getElem?_eq_getElem (by omega)]
    simp only [Option.map_some, hi, if_true, show i < ds.length by omega]
    have e : (ds.take m).take i = ds.take i := by rw [List.take_take, Nat.min_eq_left (Nat.le_of_lt hi)]
    simp only [recAt, e]
  · rw [if_neg hi, List.getElem?_take, if_neg hi]
    rfl

end Go.Proofs.Qxb6601967a
