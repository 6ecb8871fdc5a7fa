/-
  The reader with or without its map, under one word: resolve, close, zzOuterStands.
-/
import Derived.Test.Qxb6601967aStands
import Derived.Test.Qxb6601967aStands2
namespace Go.Proofs.Qxb6601967a
set_option linter.unusedVariables false
set_option linter.unusedSimpArgs false
open Go.RowKit Go.Maps

def DsM (bu : Bool) (D : List Dcl) : List Dcl := if bu then recs D D.length else D
def MpM (bu : Bool) (mb nn : Nat) (D : List Dcl) : Option (Nat × Nat × (ByteArray → Option ByteArray) × Nat) := if bu then some (mb, nn, (st D).1, (st D).2) else none

def nmA (s0 s2 : ByteArray) (attr : Bool) (ds : List Dcl) : ByteArray := if need s2 attr = true then ((st ds).1 (pre s2)).getD mt else (nameOf s0 s2 attr).1
def nmB (s0 s2 : ByteArray) (attr : Bool) : ByteArray := if need s2 attr = true then loc s2 else (nameOf s0 s2 attr).2
def nmO (s2 : ByteArray) (attr : Bool) (ds : List Dcl) : Bool := if need s2 attr = true then ((st ds).1 (pre s2)).isSome else true

theorem DsM_length (bu : Bool) (D : List Dcl) : (DsM bu D).length = D.length := by
  cases bu
  · rfl
  · exact recs_length D _

/-- What the map holds came from a declaration. -/
theorem st_val : ∀ (l : List Dcl) (k v : ByteArray), (st l).1 k = some v → ∃ d ∈ l, d.s = v := by
  intro l
  refine snoc_cases (fun l => ∀ (k v : ByteArray), (st l).1 k = some v → ∃ d ∈ l, d.s = v) (fun k v h => by cases h) (fun l a ih k v h => ?_) l
  rw [st_snoc] at h
  by_cases hp : a.p = mt
  · simp only [step, hp, if_true] at h
    obtain ⟨d, hd, e⟩ := ih k v h
    exact ⟨d, List.mem_append_left _ hd, e⟩
  · simp only [step, hp, if_false, upd] at h
    by_cases hk : k = a.p
    · rw [if_pos hk] at h
      exact ⟨a, by simp, Option.some.inj h⟩
    · rw [if_neg hk] at h
      obtain ⟨d, hd, e⟩ := ih k v h
      exact ⟨d, List.mem_append_left _ hd, e⟩

section
variable (w : World) (base r : Nat) (ov : Value) (s : ByteArray) (dv : Value)

theorem resolve_mode (bu : Bool) (mb nn : Nat) (D : List Dcl) (s2 : ByteArray) (attr : Bool) (h : Rd w base r ov s dv (DsM bu D) (MpM bu mb nn D)) (hsz : s2.size ≤ 1048576) (hn : D.length ≤ 1048576) (hs : ∀ d ∈ D, d.p.size ≤ maxLen ∧ d.s.size ≤ maxLen) :
    Calls Try.prog 11 #[.pointer (some ⟨r, 0, none⟩), .string s2, .bool attr] w fun e w' =>
      e = .returned (.tuple #[.agg #[.string (nmA s s2 attr D), .string (nmB s s2 attr)], .bool (nmO s2 attr D)]) ∧ (∃ mb' nn', (nn ≤ 1048576 → nn' ≤ 1048576) ∧ Rd w' base r ov s dv (DsM (bu || need s2 attr) D) (MpM (bu || need s2 attr) mb' nn' D)) ∧ Fr base w w' := by
  unfold nmA nmB nmO
  cases hnd : need s2 attr with
  | false =>
    refine (zz_fixed w base r ov s dv _ _ s2 attr h hsz hnd).mono fun e w' ⟨he, hf⟩ => ⟨he, ⟨mb, nn, fun h => h, ?_⟩, ⟨hf.below.mono (Nat.le_trans h.hb (Nat.le_of_lt h.blk.lt)), hf.tag⟩⟩
    rw [Bool.or_false]
    exact h.below hf.below (Nat.le_refl _)
  | true =>
    cases bu with
    | false =>
      refine (zz_build w base r ov s dv D s2 attr h hsz hnd hn hs).mono fun e w' ⟨he, hr, hf⟩ => ⟨he, ⟨_, D.length, fun _ => hn, hr⟩, hf⟩
    | true =>
      exact (zz_map w base r ov s dv _ mb nn _ _ s2 attr h hsz hnd).mono fun e w' ⟨he, hr, hf⟩ => ⟨he, ⟨mb, nn, fun h => h, hr⟩, hf⟩

theorem close_mode (bu : Bool) (mb nn : Nat) (D : List Dcl) (e1 e2 m : Nat) (h : Rd w base r ov s dv (DsM bu D) (MpM bu mb nn D)) (ho : w.ownsRow base 95 5 ov 2 (oel e1 0 ++ oel e2 m)) (hm : m ≤ D.length) (hn : D.length ≤ 1048576)
    (hnn : nn ≤ 1048576) (hs : ∀ d ∈ D, d.p.size ≤ maxLen ∧ d.s.size ≤ maxLen ∧ d.r.size ≤ maxLen) :
    Calls Try.prog 33 #[.pointer (some ⟨r, 0, none⟩)] w fun e w' => e = .returned (.tuple #[]) ∧
      (∃ ov' dv' nn', Rd w' base r ov' (unS (D.drop m) s) dv' (DsM bu (D.take m)) (MpM bu mb nn' (D.take m)) ∧ w'.ownsRow base 95 5 ov' 1 (oel e1 0)) ∧ Fr base w w' := by
  cases bu with
  | false =>
    exact (zzClose_none w base r ov s dv D e1 e2 m h ho hm hn).mono fun e w' ⟨he, ⟨ov', dv', hr, ho'⟩, hf⟩ => ⟨he, ⟨ov', dv', 0, hr, ho'⟩, hf⟩
  | true =>
    have hs' : ∀ d ∈ recs D D.length, d.p.size ≤ maxLen ∧ d.r.size ≤ maxLen := by
      intro d hd
      obtain ⟨i, hi⟩ := List.getElem?_of_mem hd
      rw [recs_get] at hi
      have hil : i < D.length := by
        rcases Nat.lt_or_ge i D.length with h | h
        · exact h
        · rw [List.getElem?_eq_none_iff.2 h] at hi; simp at hi
      rw [List.getElem?_eq_getElem hil] at hi
      simp only [Option.map_some, hil, if_true, Option.some.injEq] at hi
      subst hi
      have hd0 := hs _ (List.getElem_mem hil)
      unfold recAt
      split
      · exact ⟨hd0.1, hd0.2.2⟩
      · refine ⟨hd0.1, ?_⟩
        show (((st (D.take i)).1 (D[i]).p).getD mt).size ≤ maxLen
        cases hf : (st (D.take i)).1 (D[i]).p with
        | none => show (0 : Nat) ≤ _; exact Nat.zero_le _
        | some v =>
          obtain ⟨d', hd', rfl⟩ := st_val (D.take i) _ v hf
          exact (hs d' (List.mem_of_mem_take hd')).2.1
    refine (zzClose_map w base r ov s dv (recs D D.length) e1 e2 m mb nn _ _ h ho (by rw [recs_length]; exact hm) (by rw [recs_length]; exact hn) hnn hs').mono fun e w' ⟨he, ⟨ov', dv', hr, ho'⟩, hf⟩ => ⟨he, ⟨ov', dv', nn + (D.length - m), ?_, ho'⟩, hf⟩
    rw [recs_length, unS_recs, recs_take_head D m hm, unM_recs D (D.length - m) m (by omega)] at hr
    exact hr
end

end Go.Proofs.Qxb6601967a
