/-
  readObjectKey at a line that append writes; zzb1Bare; the bound on the lengths.
-/
import Derived.Test.Qxb6602174aCuts
import Derived.OwnWalk
import Derived.Room.AppendFits
namespace Go.Proofs.Qxb6602174a
set_option linter.unusedVariables false
set_option linter.unusedSimpArgs false
open Go.RowKit

def kf : ByteArray := ⟨#[44, 34, 107, 105, 110, 100, 34, 58, 34]⟩
def mf : ByteArray := ⟨#[44, 34, 109, 101, 116, 97, 100, 97, 116, 97, 34, 58, 123, 34, 110, 97, 109, 101, 34, 58, 34]⟩

theorem At.alloc {w : World} {b o : Nat} {l : List UInt8} (h : At w b o l) (hb : b < w.heap.size) (ob : Obj) : At (w.alloc ob) b o l := fun i hi => by
  rw [← h i hi]
  exact (((Below.refl w.heap.size w).alloc (Nat.le_refl _) ob).cell (p := ⟨b, o + i, none⟩) hb)

theorem back (b o c : Nat) (l : List UInt8) (w : World) (h : At w b o l) : (convert 22 9 (.slice (some ⟨b, o, none⟩) l.length c)).run Try.prog w = .ok (.string ⟨l.toArray⟩) w :=
  run_convert_bytes_back (P := Try.prog) w 22 9 5 ⟨b, o, none⟩ c l Try.underlying22 Try.underlying5 Try.underlying9 (fun j hj => by
    have e : (⟨b, o, none⟩ : Addr).add j = ⟨b, o + j, none⟩ := by unfold Addr.add; split <;> simp_all
    rw [e, h j hj, List.getD, List.getElem?_eq_getElem hj]; rfl)

set_option maxHeartbeats 1000000 in
set_option maxRecDepth 100000 in
theorem readKey (b c n : Nat) (K A O N T : List UInt8) (KS : ByteArray) (w : World) (hA : bareL A = true) (hO : bareL O = true) (hN : bareL N = true)
    (hK : KS.size = K.length) (h : At w b 0 (K ++ (A ++ 34 :: (kf.data.toList ++ (O ++ 34 :: (mf.data.toList ++ (N ++ 34 :: T))))))) (hn : K.length + (A.length + 1 + 9 + (O.length + 1 + 21 + (N.length + 1 + T.length))) = n) (hnc : n + 31 = c) (hm : c ≤ 2097152) (hb : b < w.heap.size) :
    Calls Try.prog 21 #[.slice (some ⟨b, 0, none⟩) n c, .string KS] w fun e w' =>
      (∃ g, e = .returned (.tuple #[.pointer (some ⟨g, 0, none⟩), .bool true]) ∧ w'.cell? ⟨g, 0, none⟩ = some (.string ⟨N.toArray⟩)) ∧ Below w.heap.size w w' := by
  have hk9 : kf.size = 9 := rfl
  have hm21 : mf.size = 21 := rfl
  have h1 : At w b K.length (A ++ 34 :: (kf.data.toList ++ (O ++ 34 :: (mf.data.toList ++ (N ++ 34 :: T))))) := by simpa using h.right
  have c1 := cutBefore_any b K.length (c - K.length) (n - K.length) _ _ A (O ++ 34 :: (mf.data.toList ++ (N ++ 34 :: T))) kf w hA h1 (by simp [hk9, hm21]; omega) (by omega) (by omega) (by omega) rfl rfl
  have h2 : At w b (K.length + (A.length + 1 + 9)) (O ++ 34 :: (mf.data.toList ++ (N ++ 34 :: T))) := by
    have h' : At w b K.length ((A ++ 34 :: kf.data.toList) ++ (O ++ 34 :: (mf.data.toList ++ (N ++ 34 :: T)))) := by simpa using h1
    have e : (A ++ 34 :: kf.data.toList).length = A.length + 1 + 9 := by simp [kf]
    have h'' := h'.right
    rwa [e] at h''
  have h3 : At w b (K.length + (A.length + 1 + 9) + (O.length + 1 + 21)) (N ++ 34 :: T) := by
    have h' : At w b (K.length + (A.length + 1 + 9)) ((O ++ 34 :: mf.data.toList) ++ (N ++ 34 :: T)) := by simpa using h2
    have e : (O ++ 34 :: mf.data.toList).length = O.length + 1 + 21 := by simp [mf]
    have h'' := h'.right
    rwa [e] at h''
  have l1 : (O ++ 34 :: (mf.data.toList ++ (N ++ 34 :: T))).length = O.length + 1 + 21 + (N.length + 1 + T.length) := by simp [mf]; omega
  have l2 : (N ++ 34 :: T).length = N.length + 1 + T.length := by simp; omega
  have c2 := fun q => cutBefore_any b (K.length + (A.length + 1 + 9)) (c - K.length - (A.length + 1 + 9)) (O.length + 1 + 21 + (N.length + 1 + T.length)) _ _ O (N ++ 34 :: T) mf (w.drewN q) hO (h2.drewN q) (by rw [hm21, l2]) (by omega) (by rw [hm21]; omega) (by omega) rfl rfl
  have c3 := fun q => cutString_any b (K.length + (A.length + 1 + 9) + (O.length + 1 + 21)) (c - K.length - (A.length + 1 + 9) - (O.length + 1 + 21)) (N.length + 1 + T.length) _ _ N T (w.drewN q) hN (h3.drewN q) rfl (by omega) (by omega) (by omega) rfl rfl
  have hconv := fun q ob => back b (K.length + (A.length + 1 + 9) + (O.length + 1 + 21)) (c - K.length - (A.length + 1 + 9) - (O.length + 1 + 21)) N ((w.drewN q).alloc ob) ((h3.left.drewN q).alloc hb ob)
  rw [l1, hk9] at c1
  rw [l2, hm21] at c2
  simp only [kf] at c1
  simp only [mf] at c2
  have C2 : Hid _ := c2
  have C3 : Hid _ := c3
  have CV : Hid _ := hconv
  clear h h1 h2 h3 l1 l2 hk9 hm21 hA hO hN c2 c3 hconv
  go_enter Try.func21, Try.ntmps21
  go_wp2_with fail
  refine c1.mono ?_
  rintro e w' ⟨⟨v, rfl⟩, q, rfl⟩
  go_wp2_with fail
  refine (C2.out q).mono ?_
  rintro e w' ⟨⟨v', rfl⟩, q', hw'⟩
  rw [World.drewN_drewN] at hw'
  subst hw'
  go_wp2_with fail
  refine (C3.out _).mono ?_
  rintro e w1 ⟨rfl, q2, hw'⟩
  rw [World.drewN_drewN] at hw'
  have hcv := CV.out (q + q' + q2) (.cells #[.string ⟨#[]⟩] 32)
  rw [← hw'] at hcv
  have HB : Hid (Below w.heap.size w w1) := by rw [hw']; exact ⟨rfl, rfl, rfl, Nat.le_refl _, fun _ _ => rfl⟩
  clear hw' C2 C3 CV c1
  go_wp2_with fail
  go_ret2
  refine ⟨⟨w1.heap.size, rfl, ?_⟩, HB.out.alloc HB.out.size _⟩
  rw [World.cell?_alloc_at _ _ _ _ rfl]
  rfl

theorem zzReadKey (b c n : Nat) (K A O N T : List UInt8) (KS : ByteArray) (w : World) (hA : bareL A = true) (hO : bareL O = true) (hN : bareL N = true)
    (hK : KS.size = K.length) (h : At w b 0 (K ++ (A ++ 34 :: (kf.data.toList ++ (O ++ 34 :: (mf.data.toList ++ (N ++ 34 :: T))))))) (hn : K.length + (A.length + 1 + 9 + (O.length + 1 + 21 + (N.length + 1 + T.length))) = n) (hnc : n + 31 = c) (hm : c ≤ 2097152) (hb : b < w.heap.size) :
    Calls Try.prog 10 #[.slice (some ⟨b, 0, none⟩) n c, .string KS] w fun e w' =>
      (∃ g, e = .returned (.tuple #[.pointer (some ⟨g, 0, none⟩), .bool true]) ∧ w'.cell? ⟨g, 0, none⟩ = some (.string ⟨N.toArray⟩)) ∧ Below w.heap.size w w' := by
  have hcon := readKey b c n K A O N T KS w hA hO hN hK h hn hnc hm hb
  clear hA hO hN hK h hn hnc hm hb
  go_enter Try.func10, Try.ntmps10
  go_wp2_with fail
  refine hcon.mono ?_
  rintro e w' ⟨⟨g, rfl, hg⟩, hb⟩
  have HG : Hid (w'.cell? ⟨g, 0, none⟩ = some (.string ⟨N.toArray⟩)) := hg
  have HB : Hid (Below w.heap.size w w') := hb
  clear hg hb
  go_wp2_with fail
  go_ret2
  exact ⟨⟨g, rfl, HG.out⟩, HB.out⟩

/-! ### zzb1Bare -/
def bareB (c : UInt8) : Bool := !(c == 34) && !(c == 92)
theorem bare_all : ∀ l : List UInt8, l.all bareB = bareL l
  | [] => rfl
  | c :: l => by
    rw [List.all_cons, bare_all l]
    unfold bareL bareB
    rw [List.contains_cons, List.contains_cons]
    have e1 : ((34 : UInt8) == c) = (c == 34) := by rw [Bool.eq_iff_iff, beq_iff_eq, beq_iff_eq]; exact eq_comm
    have e2 : ((92 : UInt8) == c) = (c == 92) := by rw [Bool.eq_iff_iff, beq_iff_eq, beq_iff_eq]; exact eq_comm
    rw [e1, e2]
    cases (c == 34) <;> cases (c == 92) <;> cases l.contains 34 <;> cases l.contains 92 <;> rfl

theorem take_bare (s : ByteArray) (k : Nat) (hk : k < s.size) (h : (s.data.toList.take k).all bareB = true) :
    (s.data.toList.take (k + 1)).all bareB = bareB (s[k]'hk) := by
  have hk' : k < s.data.toList.length := by simpa using hk
  rw [List.take_succ_eq_append_getElem hk', List.all_append, h]
  simp
  rfl

theorem not_bare (s : ByteArray) (k : Nat) (hk : k < s.size) (h : bareB (s[k]'hk) = false) : s.data.toList.all bareB = false := by
  have hk' : k < s.data.toList.length := by simpa using hk
  rw [List.all_eq_false]
  refine ⟨s.data.toList[k]'hk', List.getElem_mem _, ?_⟩
  have : s.data.toList[k]'hk' = s[k]'hk := by simp; rfl
  rw [this, h]; simp

theorem byte_eq (c d : UInt8) : (((c.toNat : Int)) == (d.toNat : Int)) = (c == d) := by
  rw [Bool.eq_iff_iff, beq_iff_eq, beq_iff_eq]
  constructor
  · intro h
    exact UInt8.toNat_inj.1 (by omega)
  · intro h; rw [h]

set_option maxHeartbeats 1000000 in
set_option maxRecDepth 100000 in
theorem bare_any (s : ByteArray) (hs : s.size ≤ 65536) (w : World) :
    Calls Try.prog 12 #[.string s] w fun e w' => e = .returned (.bool (bareL s.data.toList)) ∧ w' = w := by
  rw [← bare_all]
  go_enter Try.func12, Try.ntmps12
  go_wp2_with fail
  go_loopw [3] (fun i wr => ∃ k : Nat, k ≤ s.size ∧ i = .int .i64 k ∧ (s.data.toList.take k).all bareB = true ∧ wr = w) (fun i _ => s.size - (intOf i).toNat)
  case atStart => exact ⟨0, Nat.zero_le _, rfl, rfl, rfl⟩
  case round =>
    obtain ⟨k, hk, rfl, hall, rfl⟩ := hrel
    by_cases hlt : k < s.size
    · have HT : Hid ((s.data.toList.take (k + 1)).all bareB = bareB (s[k]'hlt)) := take_bare s k hlt hall
      have HM : Hid (bareB (s[k]'hlt) = false → s.data.toList.all bareB = false) := not_bare s k hlt
      have h34 : (((s[k]'hlt).toNat : Int) == 34) = ((s[k]'hlt) == 34) := byte_eq _ 34
      have h92 : (((s[k]'hlt).toNat : Int) == 92) = ((s[k]'hlt) == 92) := byte_eq _ 92
      have HQ : Hid (bareB (s[k]'hlt) = (!((s[k]'hlt) == 34) && !((s[k]'hlt) == 92))) := rfl
      clear hall
      rcases Bool.eq_false_or_eq_true ((s[k]'hlt) == 34) with e1 | e1 <;> rcases Bool.eq_false_or_eq_true ((s[k]'hlt) == 92) with e2 | e2
      all_goals (rw [e1] at h34; rw [e2] at h92; rw [e1, e2] at HQ; clear e1 e2)
      · go_wp2_with fail
        go_ret
        exact ⟨by rw [HM.out HQ.out] <;> rfl, rfl⟩
      · go_wp2_with fail
        go_ret
        exact ⟨by rw [HM.out HQ.out] <;> rfl, rfl⟩
      · go_wp2_with fail
        go_ret
        exact ⟨by rw [HM.out HQ.out] <;> rfl, rfl⟩
      · go_wp2_with fail
        go_roundw
        case rel => exact ⟨k + 1, by omega, by go_num, by rw [HT.out, HQ.out]; rfl, trivial⟩
        case measure => simp [intOf]; omega
    · have hkn : k = s.size := by omega
      subst hkn
      have HA : Hid (s.data.toList.all bareB = true) := by
        have e : s.data.toList.take s.size = s.data.toList := List.take_of_length_le (by simp)
        rw [e] at hall; exact hall
      go_wp2_with fail
      go_ret
      exact ⟨by rw [HA.out] <;> rfl, rfl⟩

/-! ### the bound on the lengths -/
set_option maxHeartbeats 1000000 in
set_option maxRecDepth 100000 in
theorem zzBytes_yes (a0 a1 a2 a3 a4 : ByteArray) (h0 : a0.size ≤ 65536) (h1 : a1.size ≤ 65536) (h2 : a2.size ≤ 65536) (h3 : a3.size ≤ 65536) (h4 : a4.size ≤ 65536) (w : World) :
    Calls Try.prog 11 #[.string a0, .string a1, .string a2, .string a3, .string a4] w fun e w' => e = .returned (.bool true) ∧ w' = w := by
  go_enter Try.func11, Try.ntmps11
  go_wp2_with fail
  go_ret
  exact ⟨rfl, rfl⟩

def SomeBool (e : Ending) : Prop := ∃ b : Bool, e = .returned (.bool b)

set_option maxHeartbeats 1000000 in
set_option maxRecDepth 100000 in
theorem zzBytes_some (a0 a1 a2 a3 a4 : ByteArray) (h0 : a0.size ≤ maxLen) (h1 : a1.size ≤ maxLen) (h2 : a2.size ≤ maxLen) (h3 : a3.size ≤ maxLen) (h4 : a4.size ≤ maxLen) (w : World) :
    Calls Try.prog 11 #[.string a0, .string a1, .string a2, .string a3, .string a4] w fun e w' => SomeBool e ∧ w' = w := by
  have h0' : a0.size ≤ 9223372036854775807 := h0
  have h1' : a1.size ≤ 9223372036854775807 := h1
  have h2' : a2.size ≤ 9223372036854775807 := h2
  have h3' : a3.size ≤ 9223372036854775807 := h3
  have h4' : a4.size ≤ 9223372036854775807 := h4
  clear h0 h1 h2 h3 h4
  go_enter Try.func11, Try.ntmps11
  go_wp2_with fail
  all_goals go_ret
  all_goals exact ⟨⟨_, rfl⟩, rfl⟩

end Go.Proofs.Qxb6602174a
