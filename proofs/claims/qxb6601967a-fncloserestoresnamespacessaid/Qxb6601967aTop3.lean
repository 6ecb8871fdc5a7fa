/-
  FnCloseRestoresNamespaces' own walk.
-/
import Derived.Test.Qxb6601967aStands3
import Derived.Lib.Builder
namespace Go.Proofs.Qxb6601967a
set_option linter.unusedVariables false
set_option linter.unusedSimpArgs false
open Go.RowKit Go.Maps

theorem Rd.start' {w' : World} {r : Nat} {s : ByteArray} {base : Nat} (h : RdBlk w' r (.slice none 0 0) s (.slice none 0 0) none) (hb : base ≤ r) : Rd w' base r (.slice none 0 0) s (.slice none 0 0) [] none :=
  ⟨h, World.ownsRow_nil _ _ _ _, hb, fun b n f sz e => by cases e⟩

theorem In2.mono {w : World} {p : Option Addr} {n B B' : Nat} {ds : List Nd} (h : In2 w B p n ds) (hB : B ≤ B') : In2 w B' p n ds := by
  refine ⟨h.len, fun hn => ?_, h.small⟩
  obtain ⟨b, o, hp, hlt, hc⟩ := h.at' hn
  exact ⟨b, o, hp, Nat.lt_of_lt_of_le hlt hB, hc⟩

set_option maxHeartbeats 4000000 in
set_option maxRecDepth 100000 in
theorem top3_good (s0 s3 s5 : ByteArray) (x4 x6 : Bool) (p1 p2 : Option Addr) (n1 c1 n2 c2 : Nat) (l1 l2 : List Nd) (w : World) (h1 : In2 w w.heap.size p1 n1 l1) (h2 : In2 w w.heap.size p2 n2 l2)
    (k1 : n1 ≤ 4096) (k0 : s0.size ≤ 1048576) (k3 : s3.size ≤ 1048576) (k5 : s5.size ≤ 1048576) :
    Calls Try.prog 6 #[.string s0, .slice p1 n1 c1, .slice p2 n2 c2, .string s3, .bool x4, .string s5, .bool x6] w fun e w' => e = .returned (.bool true) ∧ Below w.heap.size w w' := by
  have hzz := zzB_any s0 s3 s5 x4 x6 p1 p2 n1 c1 n2 c2 _ l1 l2 w h1 h2
  have t1 : decide ((4096 : Int) < (n1 : Int)) = false := by simp; omega
  have t2 : decide ((1048576 : Int) < (s0.size : Int)) = false := by simp; omega
  have t3 : decide ((1048576 : Int) < (s3.size : Int)) = false := by simp; omega
  have t4 : decide ((1048576 : Int) < (s5.size : Int)) = false := by simp; omega
  obtain ⟨j63, hj63⟩ : ∃ j, Try.prog.info? 63 = some j := Option.isSome_iff_exists.1 (by kernel_rfl)
  have qp : ∀ (w : World) (a : Addr), (binOp .neq 60 (.pointer (some a)) (.pointer (some a))).run Try.prog w = .ok (.bool false) w := fun w a => Lib.run_neq_ptr_same w a Try.underlying60 hj63
  have qn : ∀ (w : World) (a : Option Addr) (n c n' c' : Nat), (binOp .eql 59 (.slice a n c) (.slice none n' c')).run Try.prog w = .ok (.bool a.isNone) w := fun w a n c n' c' => Lib.run_eql_slice_nil w _ _ a n c n' c' Try.underlying59
  have H1 : Hid (In2 w w.heap.size p1 n1 l1) := h1
  have H2 : Hid (In2 w w.heap.size p2 n2 l2) := h2
  clear h1 h2
  go_enter Try.func6, Try.ntmps6
  go_wp2_with fail
  refine hzz.mono ?_
  rintro e w' ⟨hbd, hw'⟩
  have hw'' := hw'.symm
  subst hw''
  clear hzz
  rcases hbd with rfl | ⟨rfl, hsum⟩
  · go_wp2_with fail
    go_ret
    exact ⟨rfl, Below.refl _ _⟩
  have HSUM : Hid (n1 + n2 ≤ 1048576) := hsum
  clear hsum
  go_wp2_with fail
  refine (zzSizeNS_any p1 n1 c1 _ l1 w H1.out (by omega)).mono ?_
  rintro e w' ⟨m1, rfl, q1, hw'⟩
  subst hw'
  go_wp2_with fail
  have hq1 : Below w.heap.size w (w.drewN q1) := ⟨rfl, rfl, rfl, Nat.le_refl _, fun _ _ => rfl⟩
  refine (zzSizeNS_any p2 n2 c2 _ l2 (w.drewN q1) (H2.out.below hq1) (by have := HSUM.out; omega)).mono ?_
  rintro e wA ⟨m2, rfl, q2, hwA⟩
  rw [World.drewN_drewN] at hwA
  have HBA : Hid (Below w.heap.size w wA) := by rw [hwA]; exact ⟨rfl, rfl, rfl, Nat.le_refl _, fun _ _ => rfl⟩
  have hszA : wA.heap.size = w.heap.size := by rw [hwA]; rfl
  clear hwA hq1
  go_wp2_with fail
  · go_ret
    exact ⟨rfl, HBA.out⟩
  have G1 : Hid (In2 wA wA.heap.size p1 n1 l1) := by show In2 _ _ _ _ _; rw [hszA]; exact H1.out.below HBA.out
  have G2 : Hid (In2 wA wA.heap.size p2 n2 l2) := by show In2 _ _ _ _ _; rw [hszA]; exact H2.out.below HBA.out
  have HSZ : Hid (wA.heap.size = w.heap.size) := hszA
  have HK0 : Hid (s0.size ≤ maxLen) := by show _ ≤ _; unfold maxLen; omega
  have HS1 : Hid ((endS l1 s0).size ≤ maxLen) := endS_small G1.out.small HK0.out
  have HDS1 : Hid (∀ d ∈ (dcls l1 s0), d.p.size ≤ maxLen ∧ d.s.size ≤ maxLen ∧ d.r.size ≤ maxLen) := dcls_small G1.out.small HK0.out
  have HDSA : Hid (∀ d ∈ (dcls l1 s0 ++ dcls l2 (endS l1 s0)), d.p.size ≤ maxLen ∧ d.s.size ≤ maxLen ∧ d.r.size ≤ maxLen) := by
    intro d hd
    rcases List.mem_append.1 hd with h | h
    · exact HDS1.out d h
    · exact dcls_small G2.out.small HS1.out d h
  have HL1 : Hid ((dcls l1 s0).length = n1) := by show _ = _; rw [dcls_length]; exact G1.out.len
  have HLA : Hid ((dcls l1 s0 ++ dcls l2 (endS l1 s0)).length = n1 + n2) := by show _ = _; rw [List.length_append, dcls_length, dcls_length, G1.out.len, G2.out.len]
  clear hszA H1 H2
  refine (newReader_any s0 wA).mono ?_
  rintro e w1 ⟨rfl, hblk, hfr⟩
  have R1 : Hid (Rd w1 wA.heap.size wA.heap.size (.slice none 0 0) s0 (.slice none 0 0) [] none) := Rd.start' hblk (Nat.le_refl _)
  have F1 : Hid (Fq wA.heap.size wA w1) := hfr.q
  clear hblk hfr
  go_wp2_with fail
  refine (pushOpen_any (w1.alloc (.cells #[.string ⟨#[]⟩, .string ⟨#[]⟩, .slice none 0 0, .slice none 0 0, .string ⟨#[]⟩, .int .i64 0, .int .i64 0] 63)) wA.heap.size wA.heap.size (.slice none 0 0) s0 (.slice none 0 0) [] none w1.heap.size 0 0 [] (R1.out.alloc _) (World.ownsRow_nil _ _ _ _) (by omega)).mono ?_
  rintro e w3 ⟨rfl, ⟨ov1, hr, ho⟩, hq⟩
  have R3 : Hid (Rd w3 wA.heap.size wA.heap.size ov1 s0 (.slice none 0 0) [] none) := hr
  have O3 : Hid (w3.ownsRow wA.heap.size 95 5 ov1 1 (oel w1.heap.size 0)) := ho
  have F3 : Hid (Fq wA.heap.size wA w3) := (F1.out.alloc F1.out.below.size _).trans hq
  have E3 : Hid (w3.heap[w1.heap.size]? = some (.cells #[.string ⟨#[]⟩, .string ⟨#[]⟩, .slice none 0 0, .slice none 0 0, .string ⟨#[]⟩, .int .i64 0, .int .i64 0] 63 (0, 0))) := hq.tag _ _ _ _ (heap_alloc_new w1 _) (by decide) (by decide) (by decide)
  clear hr ho hq R1 F1
  go_wp2_with fail
  refine (pushNS_any w3 wA.heap.size wA.heap.size ov1 s0 (.slice none 0 0) [] none p1 n1 c1 l1 s0 R3.out (G1.out.below F3.out.below) (by simp; omega)).mono ?_
  rintro e w4 ⟨rfl, ⟨dv4, hr⟩, hf⟩
  have R4 : Hid (Rd w4 wA.heap.size wA.heap.size ov1 s0 dv4 (dcls l1 s0) none) := hr
  have O4 : Hid (w4.ownsRow wA.heap.size 95 5 ov1 1 (oel w1.heap.size 0)) := orow_fr O3.out hf
  have F4 : Hid (Fq wA.heap.size wA w4) := F3.out.trans hf.q
  have E4 : Hid (w4.heap[w1.heap.size]? = some (.cells #[.string ⟨#[]⟩, .string ⟨#[]⟩, .slice none 0 0, .slice none 0 0, .string ⟨#[]⟩, .int .i64 0, .int .i64 0] 63 (0, 0))) := hf.tag _ _ _ _ E3.out (by decide) (by decide)
  clear hr hf R3 O3 F3 E3
  go_wp2_with fail
  refine (setSpace_any w4 wA.heap.size wA.heap.size ov1 s0 dv4 (dcls l1 s0) none (endS l1 s0) R4.out).mono ?_
  rintro e w5 ⟨rfl, hr, hf⟩
  have R5 : Hid (Rd w5 wA.heap.size wA.heap.size ov1 (endS l1 s0) dv4 (dcls l1 s0) none) := hr
  have O5 : Hid (w5.ownsRow wA.heap.size 95 5 ov1 1 (oel w1.heap.size 0)) := orow_fr O4.out hf
  have F5 : Hid (Fq wA.heap.size wA w5) := F4.out.trans hf.q
  have E5 : Hid (w5.heap[w1.heap.size]? = some (.cells #[.string ⟨#[]⟩, .string ⟨#[]⟩, .slice none 0 0, .slice none 0 0, .string ⟨#[]⟩, .int .i64 0, .int .i64 0] 63 (0, 0))) := hf.tag _ _ _ _ E4.out (by decide) (by decide)
  clear hr hf R4 O4 F4 E4
  go_wp2_with fail
  refine (pushOpen_any (w5.alloc (.cells #[.string ⟨#[]⟩, .string ⟨#[]⟩, .slice none 0 0, .slice none 0 0, .string ⟨#[]⟩, .int .i64 0, .int .i64 0] 63)) wA.heap.size wA.heap.size ov1 (endS l1 s0) dv4 (dcls l1 s0) none w5.heap.size n1 1 (oel w1.heap.size 0) (R5.out.alloc _) (O5.out.alloc _) (by omega)).mono ?_
  rintro e w7 ⟨rfl, ⟨ov2, hr, ho⟩, hq⟩
  have R7 : Hid (Rd w7 wA.heap.size wA.heap.size ov2 (endS l1 s0) dv4 (dcls l1 s0) none) := hr
  have O7 : Hid (w7.ownsRow wA.heap.size 95 5 ov2 2 (oel w1.heap.size 0 ++ oel w5.heap.size n1)) := ho
  have F7 : Hid (Fq wA.heap.size wA w7) := (F5.out.alloc F5.out.below.size _).trans hq
  have E7 : Hid (w7.heap[w1.heap.size]? = some (.cells #[.string ⟨#[]⟩, .string ⟨#[]⟩, .slice none 0 0, .slice none 0 0, .string ⟨#[]⟩, .int .i64 0, .int .i64 0] 63 (0, 0))) := hq.tag _ _ _ _ (by rw [Below.heap_alloc w5 _ _ (Array.getElem?_eq_some_iff.1 E5.out).1]; exact E5.out) (by decide) (by decide) (by decide)
  have I7 : Hid (w7.heap[w5.heap.size]? = some (.cells #[.string ⟨#[]⟩, .string ⟨#[]⟩, .slice none 0 0, .slice none 0 0, .string ⟨#[]⟩, .int .i64 0, .int .i64 0] 63 (0, 0))) := hq.tag _ _ _ _ (heap_alloc_new w5 _) (by decide) (by decide) (by decide)
  clear hr ho hq R5 O5 F5 E5
  go_wp2_with fail
  refine (pushNS_any w7 wA.heap.size wA.heap.size ov2 (endS l1 s0) dv4 (dcls l1 s0) none p2 n2 c2 l2 (endS l1 s0) R7.out (G2.out.below F7.out.below) (by rw [HL1.out]; exact HSUM.out)).mono ?_
  rintro e w8 ⟨rfl, ⟨dv8, hr⟩, hf⟩
  have R8 : Hid (Rd w8 wA.heap.size wA.heap.size ov2 (endS l1 s0) dv8 (dcls l1 s0 ++ dcls l2 (endS l1 s0)) none) := hr
  have O8 : Hid (w8.ownsRow wA.heap.size 95 5 ov2 2 (oel w1.heap.size 0 ++ oel w5.heap.size n1)) := orow_fr O7.out hf
  have F8 : Hid (Fq wA.heap.size wA w8) := F7.out.trans hf.q
  have E8 : Hid (w8.heap[w1.heap.size]? = some (.cells #[.string ⟨#[]⟩, .string ⟨#[]⟩, .slice none 0 0, .slice none 0 0, .string ⟨#[]⟩, .int .i64 0, .int .i64 0] 63 (0, 0))) := hf.tag _ _ _ _ E7.out (by decide) (by decide)
  have I8 : Hid (w8.heap[w5.heap.size]? = some (.cells #[.string ⟨#[]⟩, .string ⟨#[]⟩, .slice none 0 0, .slice none 0 0, .string ⟨#[]⟩, .int .i64 0, .int .i64 0] 63 (0, 0))) := hf.tag _ _ _ _ I7.out (by decide) (by decide)
  clear hr hf R7 O7 F7 E7 I7
  go_wp2_with fail
  refine (setSpace_any w8 wA.heap.size wA.heap.size ov2 (endS l1 s0) dv8 (dcls l1 s0 ++ dcls l2 (endS l1 s0)) none (endS l2 (endS l1 s0)) R8.out).mono ?_
  rintro e w9 ⟨rfl, hr, hf⟩
  have R9 : Hid (Rd w9 wA.heap.size wA.heap.size ov2 (endS l2 (endS l1 s0)) dv8 (dcls l1 s0 ++ dcls l2 (endS l1 s0)) none) := hr
  have O9 : Hid (w9.ownsRow wA.heap.size 95 5 ov2 2 (oel w1.heap.size 0 ++ oel w5.heap.size n1)) := orow_fr O8.out hf
  have F9 : Hid (Fq wA.heap.size wA w9) := F8.out.trans hf.q
  have E9 : Hid (w9.heap[w1.heap.size]? = some (.cells #[.string ⟨#[]⟩, .string ⟨#[]⟩, .slice none 0 0, .slice none 0 0, .string ⟨#[]⟩, .int .i64 0, .int .i64 0] 63 (0, 0))) := hf.tag _ _ _ _ E8.out (by decide) (by decide)
  have I9 : Hid (w9.heap[w5.heap.size]? = some (.cells #[.string ⟨#[]⟩, .string ⟨#[]⟩, .slice none 0 0, .slice none 0 0, .string ⟨#[]⟩, .int .i64 0, .int .i64 0] 63 (0, 0))) := hf.tag _ _ _ _ I8.out (by decide) (by decide)
  clear hr hf R8 O8 F8 E8 I8
  go_wp2_with fail
  refine (resolve_mode w9 wA.heap.size wA.heap.size ov2 (endS l2 (endS l1 s0)) dv8 false 0 0 (dcls l1 s0 ++ dcls l2 (endS l1 s0)) s3 x4 R9.out k3 (by rw [HLA.out]; exact HSUM.out) (fun d hd => ⟨(HDSA.out d hd).1, (HDSA.out d hd).2.1⟩)).mono ?_
  rintro e w10 ⟨rfl, ⟨mb, nn, hnn, hr⟩, hf⟩
  generalize (false || need s3 x4) = bu at hr
  have R10 : Hid (Rd w10 wA.heap.size wA.heap.size ov2 (endS l2 (endS l1 s0)) dv8 (DsM bu (dcls l1 s0 ++ dcls l2 (endS l1 s0))) (MpM bu mb nn (dcls l1 s0 ++ dcls l2 (endS l1 s0)))) := hr
  have HNN : Hid (nn ≤ 1048576) := hnn (by decide)
  have O10 : Hid (w10.ownsRow wA.heap.size 95 5 ov2 2 (oel w1.heap.size 0 ++ oel w5.heap.size n1)) := orow_fr O9.out hf
  have F10 : Hid (Fq wA.heap.size wA w10) := F9.out.trans hf.q
  have E10 : Hid (w10.heap[w1.heap.size]? = some (.cells #[.string ⟨#[]⟩, .string ⟨#[]⟩, .slice none 0 0, .slice none 0 0, .string ⟨#[]⟩, .int .i64 0, .int .i64 0] 63 (0, 0))) := hf.tag _ _ _ _ E9.out (by decide) (by decide)
  have I10 : Hid (w10.heap[w5.heap.size]? = some (.cells #[.string ⟨#[]⟩, .string ⟨#[]⟩, .slice none 0 0, .slice none 0 0, .string ⟨#[]⟩, .int .i64 0, .int .i64 0] 63 (0, 0))) := hf.tag _ _ _ _ I9.out (by decide) (by decide)
  clear hr hf R9 O9 F9 E9 I9 hnn
  go_wp2_with fail
  refine (close_mode w10 wA.heap.size wA.heap.size ov2 (endS l2 (endS l1 s0)) dv8 bu mb nn (dcls l1 s0 ++ dcls l2 (endS l1 s0)) w1.heap.size w5.heap.size n1 R10.out O10.out (by rw [HLA.out]; omega) (by rw [HLA.out]; exact HSUM.out) HNN.out HDSA.out).mono ?_
  rintro e w11 ⟨rfl, ⟨ov3, dv11, nn', hr, ho⟩, hf⟩
  rw [List.drop_left' HL1.out, List.take_left' HL1.out, unS_dcls] at hr
  have R11 : Hid (Rd w11 wA.heap.size wA.heap.size ov3 (endS l1 s0) dv11 (DsM bu (dcls l1 s0)) (MpM bu mb nn' (dcls l1 s0))) := hr
  have O11 : Hid (w11.ownsRow wA.heap.size 95 5 ov3 1 (oel w1.heap.size 0)) := ho
  have F11 : Hid (Fq wA.heap.size wA w11) := F10.out.trans hf.q
  have E11 : Hid (w11.heap[w1.heap.size]? = some (.cells #[.string ⟨#[]⟩, .string ⟨#[]⟩, .slice none 0 0, .slice none 0 0, .string ⟨#[]⟩, .int .i64 0, .int .i64 0] 63 (0, 0))) := hf.tag _ _ _ _ E10.out (by decide) (by decide)
  have I11 : Hid (w11.heap[w5.heap.size]? = some (.cells #[.string ⟨#[]⟩, .string ⟨#[]⟩, .slice none 0 0, .slice none 0 0, .string ⟨#[]⟩, .int .i64 0, .int .i64 0] 63 (0, 0))) := hf.tag _ _ _ _ I10.out (by decide) (by decide)
  clear hr ho hf R10 O10 F10 E10 I10 HNN
  go_wp2_with fail
  refine (openCount_any w11 wA.heap.size wA.heap.size ov3 (endS l1 s0) dv11 _ _ 1 _ R11.out O11.out).mono ?_
  rintro e w' ⟨rfl, hw'⟩
  have hw'' := hw'.symm
  subst hw''
  clear hw'
  go_wp2_with fail
  refine (openAt_any w11 wA.heap.size wA.heap.size ov3 (endS l1 s0) dv11 _ _ w1.heap.size 0 R11.out O11.out).mono ?_
  rintro e w12 ⟨rfl, hf⟩
  have R12 : Hid (Rd w12 wA.heap.size wA.heap.size ov3 (endS l1 s0) dv11 (DsM bu (dcls l1 s0)) (MpM bu mb nn' (dcls l1 s0))) := R11.out.below hf.below (Nat.le_refl _)
  have F12 : Hid (Fq wA.heap.size wA w12) := F11.out.trans ⟨hf.below.mono F11.out.below.size, fun k arr t m hk a1 a2 a3 => hf.tag k arr t m hk a1 a2⟩
  have E12 : w12.heap[w1.heap.size]? = some (.cells #[.string ⟨#[]⟩, .string ⟨#[]⟩, .slice none 0 0, .slice none 0 0, .string ⟨#[]⟩, .int .i64 0, .int .i64 0] 63 (0, 0)) := hf.tag _ _ _ _ E11.out (by decide) (by decide)
  have I12 : w12.heap[w5.heap.size]? = some (.cells #[.string ⟨#[]⟩, .string ⟨#[]⟩, .slice none 0 0, .slice none 0 0, .string ⟨#[]⟩, .int .i64 0, .int .i64 0] 63 (0, 0)) := hf.tag _ _ _ _ I11.out (by decide) (by decide)
  have e3 : w12.cell? ⟨w1.heap.size, 3, none⟩ = some (.slice none 0 0) := by rw [cell_of_row w12 _ 3 _ 63 _ E12]; rfl
  have e4 : w12.cell? ⟨w1.heap.size, 4, none⟩ = some (.string ⟨#[]⟩) := by rw [cell_of_row w12 _ 4 _ 63 _ E12]; rfl
  have i3 : w12.cell? ⟨w5.heap.size, 3, none⟩ = some (.slice none 0 0) := by rw [cell_of_row w12 _ 3 _ 63 _ I12]; rfl
  have i4 : w12.cell? ⟨w5.heap.size, 4, none⟩ = some (.string ⟨#[]⟩) := by rw [cell_of_row w12 _ 4 _ 63 _ I12]; rfl
  clear hf R11 O11 F11 E11 I11 E12 I12
  go_wp2_with fail
  refine (defaultSpace_any w12 wA.heap.size wA.heap.size ov3 (endS l1 s0) dv11 _ _ R12.out).mono ?_
  rintro e w' ⟨rfl, hw'⟩
  have hw'' := hw'.symm
  subst hw''
  clear hw'
  go_wp2_with fail
  refine (childCount_any w12 wA.heap.size wA.heap.size ov3 (endS l1 s0) dv11 _ _ R12.out).mono ?_
  rintro e w' ⟨rfl, hw'⟩
  have hw'' := hw'.symm
  subst hw''
  clear hw' e3 e4 i3 i4
  go_wp2_with fail
  refine (stands_mode w12 wA.heap.size wA.heap.size ov3 (endS l1 s0) dv11 bu mb nn' wA.heap.size l1 s0 p1 n1 c1 (G1.out.below F12.out.below) F12.out.below.size k1 R12.out).mono ?_
  rintro e w13 ⟨rfl, hf⟩
  have R13 : Hid (Rd w13 wA.heap.size wA.heap.size ov3 (endS l1 s0) dv11 (DsM bu (dcls l1 s0)) (MpM bu mb nn' (dcls l1 s0))) := R12.out.below hf.below (Nat.le_refl _)
  have F13 : Hid (Fq wA.heap.size wA w13) := F12.out.trans ⟨hf.below.mono F12.out.below.size, fun k arr t m hk a1 a2 a3 => hf.tag k arr t m hk a1 a2⟩
  clear hf R12 F12
  go_wp2_with fail
  refine (resolve_mode w13 wA.heap.size wA.heap.size ov3 (endS l1 s0) dv11 bu mb nn' (dcls l1 s0) s5 x6 R13.out k5 (by rw [HL1.out]; omega) (fun d hd => ⟨(HDS1.out d hd).1, (HDS1.out d hd).2.1⟩)).mono ?_
  rintro e w14 ⟨rfl, ⟨mb2, nn2, _, hr⟩, hf⟩
  generalize (bu || need s5 x6) = bu2 at hr
  have R14 : Hid (Rd w14 wA.heap.size wA.heap.size ov3 (endS l1 s0) dv11 (DsM bu2 (dcls l1 s0)) (MpM bu2 mb2 nn2 (dcls l1 s0))) := hr
  have F14 : Hid (Fq wA.heap.size wA w14) := F13.out.trans hf.q
  clear hr hf R13 F13
  generalize hA : nmA (endS l1 s0) s5 x6 (dcls l1 s0) = rA
  generalize hBb : nmB (endS l1 s0) s5 x6 = rB
  generalize hOo : nmO s5 x6 (dcls l1 s0) = rO
  have HA : Hid (nmA (endS l1 s0) s5 x6 (dcls l1 s0) = rA) := hA
  have HBb : Hid (nmB (endS l1 s0) s5 x6 = rB) := hBb
  have HOo : Hid (nmO s5 x6 (dcls l1 s0) = rO) := hOo
  clear hA hBb hOo
  go_wp2_with fail
  have R15 : Hid (Rd (w14.alloc (.cells #[.string rA, .string rB] 31)) wA.heap.size wA.heap.size ov3 (endS l1 s0) dv11 (DsM bu2 (dcls l1 s0)) (MpM bu2 mb2 nn2 (dcls l1 s0))) := R14.out.alloc _
  have F15 : Hid (Fq wA.heap.size wA (w14.alloc (.cells #[.string rA, .string rB] 31))) := F14.out.alloc F14.out.below.size _
  have N15 : Hid ((w14.alloc (.cells #[.string rA, .string rB] 31)).heap[w14.heap.size]? = some (.cells #[.string rA, .string rB] 31 (0, 0))) := heap_alloc_new w14 _
  clear R14 F14
  generalize hg0 : w14.heap.size = g0 at *
  generalize w14.alloc (.cells #[.string rA, .string rB] 31) = w15 at *
  clear hg0
  have G15 : Hid (In2 w15 w15.heap.size p1 n1 l1) := (G1.out.below F15.out.below).mono F15.out.below.size
  have P15 : Hid (In2 w15 wA.heap.size p1 n1 l1) := G1.out.below F15.out.below
  refine (newReader_any s0 w15).mono ?_
  rintro e w16 ⟨rfl, hblk, hfr⟩
  have R16 : Hid (Rd w16 w15.heap.size w15.heap.size (.slice none 0 0) s0 (.slice none 0 0) [] none) := Rd.start' hblk (Nat.le_refl _)
  have F16 : Hid (Fq w15.heap.size w15 w16) := hfr.q
  clear hblk hfr
  go_wp2_with fail
  refine (pushOpen_any (w16.alloc (.cells #[.string ⟨#[]⟩, .string ⟨#[]⟩, .slice none 0 0, .slice none 0 0, .string ⟨#[]⟩, .int .i64 0, .int .i64 0] 63)) w15.heap.size w15.heap.size (.slice none 0 0) s0 (.slice none 0 0) [] none w16.heap.size 0 0 [] (R16.out.alloc _) (World.ownsRow_nil _ _ _ _) (by omega)).mono ?_
  rintro e w18 ⟨rfl, ⟨ov4, hr, ho⟩, hq⟩
  have R18 : Hid (Rd w18 w15.heap.size w15.heap.size ov4 s0 (.slice none 0 0) [] none) := hr
  have F18 : Hid (Fq w15.heap.size w15 w18) := (F16.out.alloc F16.out.below.size _).trans hq
  clear hr ho hq R16 F16
  go_wp2_with fail
  refine (pushNS_any w18 w15.heap.size w15.heap.size ov4 s0 (.slice none 0 0) [] none p1 n1 c1 l1 s0 R18.out (G15.out.below F18.out.below) (by simp; omega)).mono ?_
  rintro e w19 ⟨rfl, ⟨dv19, hr⟩, hf⟩
  have R19 : Hid (Rd w19 w15.heap.size w15.heap.size ov4 s0 dv19 (dcls l1 s0) none) := hr
  have F19 : Hid (Fq w15.heap.size w15 w19) := F18.out.trans hf.q
  clear hr hf R18 F18
  go_wp2_with fail
  refine (setSpace_any w19 w15.heap.size w15.heap.size ov4 s0 dv19 (dcls l1 s0) none (endS l1 s0) R19.out).mono ?_
  rintro e w20 ⟨rfl, hr, hf⟩
  have R20 : Hid (Rd w20 w15.heap.size w15.heap.size ov4 (endS l1 s0) dv19 (dcls l1 s0) none) := hr
  have F20 : Hid (Fq w15.heap.size w15 w20) := F19.out.trans hf.q
  clear hr hf R19 F19
  have hrs := resolve_mode w20 w15.heap.size w15.heap.size ov4 (endS l1 s0) dv19 false 0 0 (dcls l1 s0) s5 x6 R20.out k5 (by rw [HL1.out]; omega) (fun d hd => ⟨(HDS1.out d hd).1, (HDS1.out d hd).2.1⟩)
  rw [HA.out, HBb.out, HOo.out] at hrs
  go_wp2_with fail
  refine hrs.mono ?_
  rintro e w21 ⟨rfl, _, hf⟩
  have F21 : Hid (Fq w15.heap.size w15 w21) := F20.out.trans hf.q
  clear hf hrs R20 F20
  have hF22 : Fq w15.heap.size w15 (w21.alloc (.cells #[.string rA, .string rB] 31)) := F21.out.alloc F21.out.below.size _
  have hN22 : (w21.alloc (.cells #[.string rA, .string rB] 31)).heap[w21.heap.size]? = some (.cells #[.string rA, .string rB] 31 (0, 0)) := heap_alloc_new w21 _
  have hM22 : (w21.alloc (.cells #[.string rA, .string rB] 31)).heap[g0]? = some (.cells #[.string rA, .string rB] 31 (0, 0)) := hF22.tag _ _ _ _ N15.out (by decide) (by decide) (by decide)
  have a0 : (w21.alloc (.cells #[.string rA, .string rB] 31)).cell? ⟨g0, 0, none⟩ = some (.string rA) := by rw [cell_of_row _ _ 0 _ 31 _ hM22]; rfl
  have a1 : (w21.alloc (.cells #[.string rA, .string rB] 31)).cell? ⟨g0, 1, none⟩ = some (.string rB) := by rw [cell_of_row _ _ 1 _ 31 _ hM22]; rfl
  have R22 : Hid (Rd (w21.alloc (.cells #[.string rA, .string rB] 31)) wA.heap.size wA.heap.size ov3 (endS l1 s0) dv11 (DsM bu2 (dcls l1 s0)) (MpM bu2 mb2 nn2 (dcls l1 s0))) := R15.out.below hF22.below (Nat.le_refl _)
  have F22 : Hid (Fq w15.heap.size w15 (w21.alloc (.cells #[.string rA, .string rB] 31))) := hF22
  have ds22 := defaultSpace_any (w21.alloc (.cells #[.string rA, .string rB] 31)) wA.heap.size wA.heap.size ov3 (endS l1 s0) dv11 _ _ R22.out
  have st22 := stands_mode (w21.alloc (.cells #[.string rA, .string rB] 31)) wA.heap.size wA.heap.size ov3 (endS l1 s0) dv11 bu2 mb2 nn2 wA.heap.size l1 s0 p1 n1 c1 (P15.out.below (hF22.below.mono F15.out.below.size)) (Nat.le_trans F15.out.below.size hF22.below.size) k1 R22.out
  clear hF22 hN22 hM22
  go_wp2_with fail
  refine ds22.mono ?_
  rintro e w' ⟨rfl, hw'⟩
  subst hw'
  go_wp2_with fail
  refine st22.mono ?_
  rintro e w23 ⟨rfl, hf⟩
  have HEND : Hid (Below w.heap.size w w23) := by
    have e1 : Below w15.heap.size w15 w23 := F22.out.below.trans (hf.below.mono F22.out.below.size)
    have e2 : Below wA.heap.size wA w23 := F15.out.below.trans (e1.mono F15.out.below.size)
    have e3 := HSZ.out
    rw [e3] at e2
    exact HBA.out.trans e2
  clear hf
  go_wp2_with fail
  go_ret
  exact ⟨rfl, HEND.out⟩

end Go.Proofs.Qxb6601967a
