/-
  What the map holds, as a search; how many entries it has, as a count of last declarations.
-/
import Derived.Test.Qxb6601967aPlain
namespace Go.Proofs.Qxb6601967a
set_option linter.unusedVariables false
set_option linter.unusedSimpArgs false

theorem snoc_cases {α : Type} (P : List α → Prop) (h0 : P []) (h1 : ∀ l a, P l → P (l ++ [a])) (l : List α) : P l := by
  have : ∀ n (l : List α), l.length = n → P l := by
    intro n
    induction n with
    | zero => intro l hl; rw [List.eq_nil_of_length_eq_zero hl]; exact h0
    | succ n ih =>
      intro l hl
      have hne : l ≠ [] := by intro e; rw [e] at hl; simp at hl
      rw [← List.dropLast_concat_getLast hne]
      exact h1 _ _ (ih _ (by simp [hl]))
  exact this _ l rfl

theorem st_none (k : ByteArray) (l : List Dcl) (h : ∀ d ∈ l, d.p ≠ mt → d.p ≠ k) : (st l).1 k = none := by
  revert h
  refine snoc_cases (fun l => (∀ d ∈ l, d.p ≠ mt → d.p ≠ k) → (st l).1 k = none) (fun _ => rfl) (fun l a ih h => ?_) l
  rw [st_snoc]
  have ih' := ih (fun d hd => h d (by simp [hd]))
  unfold step
  split
  · exact ih'
  · rename_i hp
    have := h a (by simp) hp
    simp only [upd]
    rw [if_neg (fun e => this e.symm)]
    exact ih'

theorem st_mt (l : List Dcl) : (st l).1 mt = none := st_none mt l (fun d _ h e => h e)

theorem st_found (k : ByteArray) (hk : k ≠ mt) (l : List Dcl) : ∀ (j : Nat) (d : Dcl), l[j]? = some d → d.p = k → (∀ j' d', j < j' → l[j']? = some d' → d'.p ≠ k) → (st l).1 k = some d.s := by
  refine snoc_cases (fun l => ∀ (j : Nat) (d : Dcl), l[j]? = some d → d.p = k → (∀ j' d', j < j' → l[j']? = some d' → d'.p ≠ k) → (st l).1 k = some d.s) ?_ ?_ l
  · intro j d h; simp at h
  · intro l a ih j d hd hp hlast
    rw [st_snoc]
    by_cases hj : j = l.length
    · subst hj
      have e : a = d := by simpa using hd
      subst e
      unfold step
      rw [if_neg (by rw [hp]; exact hk)]
      simp [upd, hp]
    · have hjl : j < l.length := by
        have := (List.getElem?_eq_some_iff.1 hd).1
        simp at this
        omega
      have hd' : l[j]? = some d := by rw [List.getElem?_append_left hjl] at hd; exact hd
      have ih' := ih j d hd' hp (fun j' d' h1 h2 => hlast j' d' h1 (by rw [List.getElem?_append_left (List.getElem?_eq_some_iff.1 h2).1]; exact h2))
      have ha := hlast l.length a hjl (by simp)
      unfold step
      split
      · exact ih'
      · simp only [upd]
        rw [if_neg (fun e => ha e.symm)]
        exact ih'

/-- How many declarations are the last of their prefix. -/
def cl : List Dcl → Nat
  | [] => 0
  | d :: l => (if d.p = mt then 0 else if (l.any fun x => decide (x.p = d.p)) then 0 else 1) + cl l

theorem st_some_iff (k : ByteArray) (hk : k ≠ mt) (l : List Dcl) : ((st l).1 k).isSome = l.any fun x => decide (x.p = k) := by
  refine snoc_cases (fun l => ((st l).1 k).isSome = l.any fun x => decide (x.p = k)) rfl (fun l a ih => ?_) l
  rw [st_snoc, List.any_append]
  unfold step
  split
  · rename_i hp
    rw [ih]
    have : a.p ≠ k := fun e => hk (by rw [← e]; exact hp)
    simp [this]
  · simp only [upd]
    by_cases e : k = a.p
    · simp [e]
    · have e' : a.p ≠ k := fun h => e h.symm
      rw [if_neg e, ih]
      simp [e']

theorem cl_snoc (a : Dcl) : ∀ l : List Dcl, cl (l ++ [a]) = cl l + (if a.p = mt then 0 else if (l.any fun x => decide (x.p = a.p)) then 0 else 1)
  | [] => by simp [cl]
  | d :: l => by
    have ih := cl_snoc a l
    have e1 : cl (d :: l ++ [a]) = (if d.p = mt then 0 else if ((l ++ [a]).any fun x => decide (x.p = d.p)) then 0 else 1) + cl (l ++ [a]) := rfl
    have e2 : cl (d :: l) = (if d.p = mt then 0 else if (l.any fun x => decide (x.p = d.p)) then 0 else 1) + cl l := rfl
    rw [e1, e2, ih, List.any_append, List.any_cons]
    by_cases hd : d.p = mt
    · by_cases ha : a.p = mt
      · simp [hd, ha]
      · have hda : ¬ mt = a.p := fun h => ha h.symm
        simp [hd, ha, hda]
    · by_cases ha : a.p = mt
      · have had : ¬ mt = d.p := fun h => hd h.symm
        simp [hd, ha, had]
      · by_cases e : a.p = d.p
        · simp only [hd, ha, e, if_false, List.any_cons, List.any_nil, decide_true, Bool.or_false, Bool.or_true, Bool.true_or, if_true]
          omega
        · have e' : ¬ d.p = a.p := fun h => e h.symm
          simp only [hd, ha, e, e', if_false, List.any_cons, List.any_nil, decide_false, Bool.or_false, Bool.false_or]
          omega

theorem st_count (l : List Dcl) : (st l).2 = cl l := by
  refine snoc_cases (fun l => (st l).2 = cl l) rfl (fun l a ih => ?_) l
  rw [st_snoc, cl_snoc]
  unfold step
  by_cases hp : a.p = mt
  · simp [hp, ih]
  · rw [if_neg hp, if_neg hp]
    simp only
    rw [st_some_iff a.p hp l, ih]
    cases (l.any fun x => decide (x.p = a.p)) <;> simp

theorem cl_le : ∀ l : List Dcl, cl l ≤ l.length
  | [] => Nat.le_refl _
  | d :: l => by
    have := cl_le l
    have e2 : cl (d :: l) = (if d.p = mt then 0 else if (l.any fun x => decide (x.p = d.p)) then 0 else 1) + cl l := rfl
    rw [e2, List.length_cons]
    split
    · omega
    · split <;> omega

theorem cl_drop (l : List Dcl) (i : Nat) (d : Dcl) (h : l[i]? = some d) : cl (l.drop i) = (if d.p = mt then 0 else if ((l.drop (i + 1)).any fun x => decide (x.p = d.p)) then 0 else 1) + cl (l.drop (i + 1)) := by
  obtain ⟨hi, rfl⟩ := List.getElem?_eq_some_iff.1 h
  rw [List.drop_eq_getElem_cons hi]
  rfl

theorem any_drop_true (l : List Dcl) (i j : Nat) (k : ByteArray) (d : Dcl) (hij : i < j) (h : l[j]? = some d) (hk : d.p = k) : ((l.drop (i + 1)).any fun x => decide (x.p = k)) = true := by
  rw [List.any_eq_true]
  refine ⟨d, ?_, by simp [hk]⟩
  have : (l.drop (i + 1))[j - (i + 1)]? = some d := by rw [List.getElem?_drop, show i + 1 + (j - (i + 1)) = j by omega]; exact h
  exact List.mem_of_getElem? this

theorem any_drop_false (l : List Dcl) (i : Nat) (k : ByteArray) (h : ∀ j d, i < j → l[j]? = some d → d.p ≠ k) : ((l.drop (i + 1)).any fun x => decide (x.p = k)) = false := by
  rw [List.any_eq_false]
  intro x hx
  obtain ⟨j, hj⟩ := List.getElem?_of_mem hx
  rw [List.getElem?_drop] at hj
  simpa using h (i + 1 + j) x (by omega) hj

end Go.Proofs.Qxb6601967a
