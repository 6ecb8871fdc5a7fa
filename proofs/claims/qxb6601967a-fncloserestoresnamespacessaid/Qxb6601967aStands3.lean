/-
  zzOuterStands at the declarations that zzPushNS pushed, with or without the map, of whatever number.
-/
import Derived.Test.Qxb6601967aModes
namespace Go.Proofs.Qxb6601967a
set_option linter.unusedVariables false
set_option linter.unusedSimpArgs false
open Go.RowKit Go.Maps

theorem dcls_get : ∀ (l : List Nd) (cur : ByteArray) (k : Nat), (dcls l cur)[k]? = (l[k]?).map fun d => recN d (endS (l.take k) cur)
  | [], _, k => by simp [dcls]
  | d :: l, cur, 0 => by simp [dcls, endS]
  | d :: l, cur, k + 1 => by
    have ih := dcls_get l (curN d cur) k
    show (dcls l (curN d cur))[k]? = _
    rw [ih]
    simp [endS]

theorem recN_ps (d : Nd) (cur : ByteArray) : (recN d cur).p = d.p ∧ (recN d cur).s = d.s := by
  unfold recN
  by_cases hp : d.p = mt <;> simp [hp]

theorem dcls_some {l : List Nd} {cur : ByteArray} {k : Nat} {d : Dcl} (h : (dcls l cur)[k]? = some d) : ∃ e, l[k]? = some e ∧ d = recN e (endS (l.take k) cur) := by
  rw [dcls_get] at h
  cases hl : l[k]? with
  | none => rw [hl] at h; simp at h
  | some e => rw [hl] at h; simp at h; exact ⟨e, rfl, h.symm⟩

theorem endS_small {l : List Nd} (hs : ∀ d ∈ l, d.p.size ≤ maxLen ∧ d.s.size ≤ maxLen) : ∀ {cur : ByteArray}, cur.size ≤ maxLen → (endS l cur).size ≤ maxLen := by
  induction l with
  | nil => exact fun h => h
  | cons d l ih =>
    intro cur h
    refine ih (fun x hx => hs x (List.mem_cons_of_mem _ hx)) ?_
    unfold curN
    split
    · exact (hs d (by simp)).2
    · exact h

theorem dcls_small {l : List Nd} {cur : ByteArray} (hs : ∀ d ∈ l, d.p.size ≤ maxLen ∧ d.s.size ≤ maxLen) (hc : cur.size ≤ maxLen) : ∀ d ∈ dcls l cur, d.p.size ≤ maxLen ∧ d.s.size ≤ maxLen ∧ d.r.size ≤ maxLen := by
  intro d hd
  obtain ⟨k, hk⟩ := List.getElem?_of_mem hd
  obtain ⟨e, he, rfl⟩ := dcls_some hk
  have hes := hs e (List.mem_of_getElem? he)
  obtain ⟨q1, q2⟩ := recN_ps e (endS (l.take k) cur)
  refine ⟨by rw [q1]; exact hes.1, by rw [q2]; exact hes.2, ?_⟩
  unfold recN
  split
  · exact endS_small (fun x hx => hs x (List.mem_of_mem_take hx)) hc
  · exact Nat.zero_le _

section
variable (w : World) (base r : Nat) (ov : Value) (s : ByteArray) (dv : Value)

set_option maxHeartbeats 1000000 in
set_option maxRecDepth 100000 in
theorem stands_empty (bu : Bool) (mb nn : Nat) (cs : ByteArray) (p : Option Addr) (c : Nat) (h : Rd w base r ov s dv (DsM bu []) (MpM bu mb nn [])) :
    Calls Try.prog 43 #[.pointer (some ⟨r, 0, none⟩), .string cs, .slice p 0 c] w fun e w' => e = .returned (.bool true) ∧ Fr w.heap.size w w' := by
  have hdc := declCount_any w _ _ _ _ _ _ _ h
  have hpn := prefixesNil_any w _ _ _ _ _ _ _ h
  rw [DsM_length] at hdc
  simp only [List.length_nil] at hdc
  cases bu with
  | false =>
    have hpn' : Calls Try.prog 16 #[.pointer (some ⟨r, 0, none⟩)] w fun e w' => e = .returned (.bool true) ∧ w' = w := hpn
    clear hpn h
    go_enter Try.func43, Try.ntmps43
    go_wp2_with fail
    refine hdc.mono ?_
    rintro e w' ⟨rfl, hw'⟩
    subst hw'
    go_wp2_with fail
    refine hpn'.mono ?_
    rintro e w' ⟨rfl, hw'⟩
    subst hw'
    go_wp2_with fail
    refine wp_loop_rounds 1 ?_
    rw [rounds_succ]
    go_wp2_with fail
    go_ret
    exact ⟨rfl, Fr.refl _ _⟩
  | true =>
    have hpn' : Calls Try.prog 16 #[.pointer (some ⟨r, 0, none⟩)] w fun e w' => e = .returned (.bool false) ∧ w' = w := hpn
    have hpc : Calls Try.prog 18 #[.pointer (some ⟨r, 0, none⟩)] w fun e w' => e = .returned (.int .i64 0) ∧ w' = w := prefixCount_any w _ _ _ _ _ _ mb nn _ _ h
    clear hpn h
    go_enter Try.func43, Try.ntmps43
    go_wp2_with fail
    refine hdc.mono ?_
    rintro e w' ⟨rfl, hw'⟩
    subst hw'
    go_wp2_with fail
    refine hpn'.mono ?_
    rintro e w' ⟨rfl, hw'⟩
    subst hw'
    go_wp2_with fail
    refine wp_loop_rounds 1 ?_
    rw [rounds_succ]
    go_wp2_with fail
    refine hpc.mono ?_
    rintro e w' ⟨rfl, hw'⟩
    subst hw'
    go_wp2_with fail
    go_ret
    exact ⟨rfl, Fr.refl _ _⟩

theorem stands_mode (bu : Bool) (mb nn B : Nat) (l : List Nd) (cs : ByteArray) (p : Option Addr) (n c : Nat) (hin : In2 w B p n l) (hB : B ≤ w.heap.size) (hn : n ≤ 4096) (h : Rd w base r ov s dv (DsM bu (dcls l cs)) (MpM bu mb nn (dcls l cs))) :
    Calls Try.prog 43 #[.pointer (some ⟨r, 0, none⟩), .string cs, .slice p n c] w fun e w' => e = .returned (.bool true) ∧ Fr w.heap.size w w' := by
  rcases Nat.eq_zero_or_pos n with h0 | h0
  · subst h0
    obtain rfl : l = [] := List.eq_nil_of_length_eq_zero hin.len
    exact stands_empty w base r ov s dv bu mb nn cs p c h
  · obtain ⟨b, o, rfl, hblt, hc⟩ := hin.at' h0
    have hlen : (dcls l cs).length = n := by rw [dcls_length]; exact hin.len
    have tk : ∀ k e, l[k]? = some e → endS (l.take (k + 1)) cs = curN e (endS (l.take k) cs) := fun k e he => by rw [nd_take l k e he, endS_snoc]
    have hE1 : ∀ k d, (dcls l cs)[k]? = some d → d.p = mt → d.r = endS (l.take k) cs ∧ endS (l.take (k + 1)) cs = d.s ∧ d.b = false := by
      intro k d hd hp
      obtain ⟨e, he, rfl⟩ := dcls_some hd
      rw [(recN_ps e _).1] at hp
      rw [tk k e he]
      simp [recN, curN, hp]
    have hE2 : ∀ k d, (dcls l cs)[k]? = some d → d.p ≠ mt → endS (l.take (k + 1)) cs = endS (l.take k) cs ∧ d.r = mt ∧ d.b = false := by
      intro k d hd hp
      obtain ⟨e, he, rfl⟩ := dcls_some hd
      rw [(recN_ps e _).1] at hp
      rw [tk k e he]
      simp [recN, curN, hp]
    have hcc : ∀ j d, (dcls l cs)[j]? = some d → w.cell? ⟨b, o + j * 2, none⟩ = some (.string d.p) ∧ w.cell? ⟨b, o + j * 2 + 1, none⟩ = some (.string d.s) := by
      intro j d hd
      obtain ⟨e, he, rfl⟩ := dcls_some hd
      obtain ⟨q1, q2⟩ := recN_ps e (endS (l.take j) cs)
      rw [q1, q2]
      exact hc j e he
    have hsm : ∀ d ∈ dcls l cs, d.p.size ≤ maxLen := by
      intro d hd
      obtain ⟨k, hk⟩ := List.getElem?_of_mem hd
      obtain ⟨e, he, rfl⟩ := dcls_some hk
      rw [(recN_ps e _).1]
      exact (hin.small e (List.mem_of_getElem? he)).1
    cases bu with
    | false => exact stands_none w base r ov s dv (dcls l cs) (fun k => endS (l.take k) cs) cs b o n c hlen hn (Nat.lt_of_lt_of_le hblt hB) rfl hE1 hE2 hcc hsm h
    | true => exact stands_map w base r ov s dv mb nn (dcls l cs) (fun k => endS (l.take k) cs) cs b o n c hlen hn (Nat.lt_of_lt_of_le hblt hB) rfl hE1 hE2 hcc hsm h
end

end Go.Proofs.Qxb6601967a
