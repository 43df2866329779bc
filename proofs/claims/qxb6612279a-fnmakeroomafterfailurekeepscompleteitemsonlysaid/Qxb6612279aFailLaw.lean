/- The walk of the law FnMakeRoomAfterFailureKeepsCompleteItemsOnly (seat b6612279a). -/
import Derived.Test.Qxb6612279aFails
namespace Go.Proofs.Qxb6612279a
open Go.RowKit

theorem view_of_held {N b : Nat} {v sv : Value} {bs : List Nat} {wr : List Value} {w : World} (h : Rest N w b v sv (cells bs) wr) : View w.heap.size w v bs := view_held h

set_option maxHeartbeats 400000 in
theorem law8_far (a1 a2 : Option Addr) (l1 c1 l2 c2 : Nat) (w : World) (m1 : l1 ≤ maxLen) (m2 : l2 ≤ maxLen) (h : ¬ l1 + l2 ≤ 1048576) :
    Calls Try.prog 8 #[.slice a1 l1 c1, .slice a2 l2 c2] w fun e w' => e = .returned (.bool true) ∧ Below w.heap.size w w' := by
  have z := hid (zzb25_no a1 a2 l1 c1 l2 c2 w m1 m2 h)
  clear m1 m2 h
  go_enter Try.func8, Try.ntmps8
  go_wp2_with fail
  refine z.out.mono ?_
  rintro e w' ⟨rfl, rfl⟩
  go_wp2_with fail
  go_ret
  exact ⟨rfl, Below.refl _ _⟩

set_option maxHeartbeats 400000 in
theorem law8_mid (a1 a2 : Option Addr) (l1 c1 l2 c2 : Nat) (w : World) (h : l1 + l2 ≤ 1048576) (hh : ¬ (l1 ≤ 524288 ∧ l2 ≤ 524288)) :
    Calls Try.prog 8 #[.slice a1 l1 c1, .slice a2 l2 c2] w fun e w' => e = .returned (.bool true) ∧ Below w.heap.size w w' := by
  have z := hid (zzb25_yes a1 a2 l1 c1 l2 c2 w h)
  by_cases k : l1 ≤ 524288
  · have k1 : decide ((524288 : Int) < (l1 : Int)) = false := by simp; omega
    have k2 : decide ((524288 : Int) < (l2 : Int)) = true := by simp; omega
    clear h hh k
    go_enter Try.func8, Try.ntmps8
    go_wp2_with fail
    refine z.out.mono ?_
    rintro e w' ⟨rfl, rfl⟩
    go_wp2_with fail
    go_ret
    exact ⟨rfl, Below.refl _ _⟩
  · have k1 : decide ((524288 : Int) < (l1 : Int)) = true := by simp; omega
    clear h hh k
    go_enter Try.func8, Try.ntmps8
    go_wp2_with fail
    refine z.out.mono ?_
    rintro e w' ⟨rfl, rfl⟩
    go_wp2_with fail
    go_ret
    exact ⟨rfl, Below.refl _ _⟩

set_option maxHeartbeats 2000000 in
theorem law8_case1 (a1 a2 : Option Addr) (c1 c2 : Nat) (B P : List Nat) (w : World) (hV1 : View w.heap.size w (.slice a1 B.length c1) B) (hV2 : View w.heap.size w (.slice a2 P.length c2) P) (h1 : B.length ≤ 524288) (h2 : P.length ≤ 524288) (hF : 65536 ≤ B.length) (hT : 65536 ≤ P.length) :
    Calls Try.prog 8 #[.slice a1 B.length c1, .slice a2 P.length c2] w fun e w' => e = .returned (.bool true) ∧ Below w.heap.size w w' := by
  have z := hid (zzb25_yes a1 a2 B.length c1 P.length c2 w (by omega))
  have k1 : decide ((524288 : Int) < (B.length : Int)) = false := by simp; omega
  have k2 : decide ((524288 : Int) < (P.length : Int)) = false := by simp; omega
  have f2 : decide ((P.length : Int) < 65536) = false := by simp; omega
  have A := zzAfterFirst_any a1 B.length c1 w
  rw [if_pos hF] at A
  have HA := hid A
  have eh : held1 B = [] := by simp [held1, hF]
  have eo : out1 B = B := by simp [out1, hF]
  have eg : got8 B P = [] := by rw [got8, eh, if_neg (by simp; omega)]
  have hgl : Hid ((cells ([])).length < 65536) := (show _ < _ from by simp [cells])
  have EG := hid eg
  have EO := hid eo
  have HV1 := hid hV1
  have HV2 := hid hV2
  clear hV1 hV2 eg eh eo A hF hT
  go_enter Try.func8, Try.ntmps8
  go_wp2_with fail
  refine z.out.mono ?_
  rintro e w0 ⟨rfl, rfl⟩
  clear z
  go_wp2_with fail
  refine HA.out.mono ?_
  rintro e w0' ⟨rfl, rfl⟩
  clear HA
  go_wp2_with fail
  refine (zzStart_any _ a1 B.length c1 B _ (Nat.le_refl _) HV1.out (by omega)).mono ?_
  rintro e w1 ⟨ib, b, v, sv, rfl, hib, B1, R1, L1⟩
  have HB1 := hid B1
  have HR1 := hid R1
  have HL1 := hid L1
  clear B1 R1 L1
  go_wp2_with fail
  refine (ZZFail_any _ ib b _ v sv _ _ w1 hib HB1.out HR1.out).mono ?_
  rintro e wf ⟨rfl, p, Bf, Rf, Lf⟩
  have HBf := hid Bf
  have HRf := hid Rf
  have HLf : Hid (Below w0'.heap.size w0' wf) := HL1.out.trans Lf
  clear Bf Rf Lf HB1 HR1 HL1
  go_wp2_with fail
  refine (Buffer_any _ _ _ _ _ _ HBf.out).mono ?_
  rintro e wf' ⟨rfl, rfl⟩
  obtain ⟨v1, w2, r2, B2, R2, L2⟩ := append_rest HBf.out HRf.out (HV2.out.below HLf.out (Nat.le_refl _)) (by rw [length_cells]; have : (held1 B).length ≤ B.length := (by unfold held1; split <;> simp); omega)
  have HB2 := hid B2
  have HR2 := hid R2
  have HL2 := hid L2
  clear B2 R2 L2
  go_wp2_with (refine Lib.wpList_append_run _ rfl (.tmp 43) (.tmp 44) 22 22 rfl _ _ rfl rfl _ _ r2 ?_)
  refine (MakeRoom_failed _ ib b _ v1 sv p B P w2 hib HB2.out HR2.out).mono ?_
  rintro e w3 ⟨x, rfl, v3, B3, R3, L3⟩
  rw [EG.out, EO.out] at R3
  obtain ⟨rx, capx, rfl⟩ : ∃ r cap, x = .slice (some ⟨r, 0, none⟩) 0 cap := by obtain ⟨r, cap, h⟩ := R3.slice; exact ⟨r, cap, by rw [h]; rfl⟩
  obtain ⟨ay, capy, hy⟩ : ∃ a cap, sv = .slice a B.length cap := by obtain ⟨a, cap, h⟩ := R3.sink.slice; exact ⟨a, cap, by rw [h]⟩
  subst hy
  have HB3 := hid B3
  have HR3 := hid R3
  have HL3 : Hid (Below w0'.heap.size w0' w3) := (HLf.out.trans HL2.out).trans L3
  clear B3 R3 L3 r2 HBf HRf HB2 HR2 HLf HL2
  go_wp2_with fail
  refine (Written_any _ b _ _ _ HR3.out.sink).mono ?_
  rintro e w4 ⟨rfl, hw4⟩
  have HB4 : Hid (Blk w4 ib b v3 (whole1 B) (errAt p)) := by rw [hw4]; exact HB3.out.old (below_drewN _ _ _)
  have HR4 : Hid (Rest w0'.heap.size w4 b (.slice (some ⟨rx, 0, none⟩) 0 capx) (.slice ay B.length capy) (cells ([])) (cells (B))) := by rw [hw4]; exact HR3.out.old (below_drewN _ _ _)
  have HL4 : Hid (Below w0'.heap.size w0' w4) := by rw [hw4]; exact HL3.out.trans (below_drewN _ _ _)
  clear hw4 HB3 HR3 HL3
  go_wp2_with fail
  refine (zzEq_any w4.heap.size (some ⟨rx, 0, none⟩) none 0 capx 0 0 ([]) w4 (view_of_held HR4.out) (View.nil _ _)).mono ?_
  rintro e w7 ⟨rfl, k, hw7⟩
  have HB7 : Hid (Blk w7 ib b v3 (whole1 B) (errAt p)) := by rw [hw7]; exact HB4.out.old (below_drewN _ _ _)
  have HR7 : Hid (Rest w0'.heap.size w7 b (.slice (some ⟨rx, 0, none⟩) 0 capx) (.slice ay B.length capy) (cells ([])) (cells (B))) := by rw [hw7]; exact HR4.out.old (below_drewN _ _ _)
  have HL7 : Hid (Below w0'.heap.size w0' w7) := by rw [hw7]; exact HL4.out.trans (below_drewN _ _ _)
  clear hw7 HB4 HR4 HL4
  go_wp2_with fail
  refine (zzEq_any w7.heap.size ay a1 B.length capy B.length c1 (B) w7 (view_written HR7.out.sink) ((HV1.out.below HL7.out (Nat.le_refl _)).mono HL7.out.size)).mono ?_
  rintro e w8 ⟨rfl, k', hw8⟩
  have HB8 : Hid (Blk w8 ib b v3 (whole1 B) (errAt p)) := by rw [hw8]; exact HB7.out.old (below_drewN _ _ _)
  have HR8 : Hid (Rest w0'.heap.size w8 b (.slice (some ⟨rx, 0, none⟩) 0 capx) (.slice ay B.length capy) (cells ([])) (cells (B))) := by rw [hw8]; exact HR7.out.old (below_drewN _ _ _)
  have HL8 : Hid (Below w0'.heap.size w0' w8) := by rw [hw8]; exact HL7.out.trans (below_drewN _ _ _)
  clear hw8 HB7 HR7 HL7
  go_wp2_with fail
  refine (Done_keep w0'.heap.size ib b _ v3 _ _ _ _ _ true w8 hib HB8.out HR8.out hgl.out).mono ?_
  rintro e w9 ⟨rfl, -, -, L9⟩
  have HF : Hid (Below w0'.heap.size w0' w9) := HL8.out.trans L9
  have ne := neq34err p
  unfold errAt
  clear L9 HB8 HR8 HL8
  go_wp2_with fail
  go_ret
  exact ⟨rfl, HF.out⟩

set_option maxHeartbeats 2000000 in
theorem law8_case2 (a1 a2 : Option Addr) (c1 c2 : Nat) (B P : List Nat) (w : World) (hV1 : View w.heap.size w (.slice a1 B.length c1) B) (hV2 : View w.heap.size w (.slice a2 P.length c2) P) (h1 : B.length ≤ 524288) (h2 : P.length ≤ 524288) (hF : 65536 ≤ B.length) (hT : ¬ 65536 ≤ P.length) :
    Calls Try.prog 8 #[.slice a1 B.length c1, .slice a2 P.length c2] w fun e w' => e = .returned (.bool true) ∧ Below w.heap.size w w' := by
  have z := hid (zzb25_yes a1 a2 B.length c1 P.length c2 w (by omega))
  have k1 : decide ((524288 : Int) < (B.length : Int)) = false := by simp; omega
  have k2 : decide ((524288 : Int) < (P.length : Int)) = false := by simp; omega
  have f2 : decide ((P.length : Int) < 65536) = true := by simp; omega
  have A := zzAfterFirst_any a1 B.length c1 w
  rw [if_pos hF] at A
  have HA := hid A
  have eh : held1 B = [] := by simp [held1, hF]
  have eo : out1 B = B := by simp [out1, hF]
  have eg : got8 B P = P := by rw [got8, eh, if_pos (by simp; omega), List.nil_append]
  have hgl : Hid ((cells (P)).length < 65536) := (show _ < _ from by rw [length_cells]; omega)
  have EG := hid eg
  have EO := hid eo
  have HV1 := hid hV1
  have HV2 := hid hV2
  clear hV1 hV2 eg eh eo A hF hT
  go_enter Try.func8, Try.ntmps8
  go_wp2_with fail
  refine z.out.mono ?_
  rintro e w0 ⟨rfl, rfl⟩
  clear z
  go_wp2_with fail
  refine HA.out.mono ?_
  rintro e w0' ⟨rfl, rfl⟩
  clear HA
  go_wp2_with fail
  refine (zzStart_any _ a1 B.length c1 B _ (Nat.le_refl _) HV1.out (by omega)).mono ?_
  rintro e w1 ⟨ib, b, v, sv, rfl, hib, B1, R1, L1⟩
  have HB1 := hid B1
  have HR1 := hid R1
  have HL1 := hid L1
  clear B1 R1 L1
  go_wp2_with fail
  refine (ZZFail_any _ ib b _ v sv _ _ w1 hib HB1.out HR1.out).mono ?_
  rintro e wf ⟨rfl, p, Bf, Rf, Lf⟩
  have HBf := hid Bf
  have HRf := hid Rf
  have HLf : Hid (Below w0'.heap.size w0' wf) := HL1.out.trans Lf
  clear Bf Rf Lf HB1 HR1 HL1
  go_wp2_with fail
  refine (Buffer_any _ _ _ _ _ _ HBf.out).mono ?_
  rintro e wf' ⟨rfl, rfl⟩
  obtain ⟨v1, w2, r2, B2, R2, L2⟩ := append_rest HBf.out HRf.out (HV2.out.below HLf.out (Nat.le_refl _)) (by rw [length_cells]; have : (held1 B).length ≤ B.length := (by unfold held1; split <;> simp); omega)
  have HB2 := hid B2
  have HR2 := hid R2
  have HL2 := hid L2
  clear B2 R2 L2
  go_wp2_with (refine Lib.wpList_append_run _ rfl (.tmp 43) (.tmp 44) 22 22 rfl _ _ rfl rfl _ _ r2 ?_)
  refine (MakeRoom_failed _ ib b _ v1 sv p B P w2 hib HB2.out HR2.out).mono ?_
  rintro e w3 ⟨x, rfl, v3, B3, R3, L3⟩
  rw [EG.out, EO.out] at R3
  obtain ⟨rx, capx, rfl⟩ : ∃ r cap, x = .slice (some ⟨r, 0, none⟩) P.length cap := by obtain ⟨r, cap, h⟩ := R3.slice; exact ⟨r, cap, by rw [h]⟩
  obtain ⟨ay, capy, hy⟩ : ∃ a cap, sv = .slice a B.length cap := by obtain ⟨a, cap, h⟩ := R3.sink.slice; exact ⟨a, cap, by rw [h]⟩
  subst hy
  have HB3 := hid B3
  have HR3 := hid R3
  have HL3 : Hid (Below w0'.heap.size w0' w3) := (HLf.out.trans HL2.out).trans L3
  clear B3 R3 L3 r2 HBf HRf HB2 HR2 HLf HL2
  go_wp2_with fail
  refine (Written_any _ b _ _ _ HR3.out.sink).mono ?_
  rintro e w4 ⟨rfl, hw4⟩
  have HB4 : Hid (Blk w4 ib b v3 (whole1 B) (errAt p)) := by rw [hw4]; exact HB3.out.old (below_drewN _ _ _)
  have HR4 : Hid (Rest w0'.heap.size w4 b (.slice (some ⟨rx, 0, none⟩) P.length capx) (.slice ay B.length capy) (cells (P)) (cells (B))) := by rw [hw4]; exact HR3.out.old (below_drewN _ _ _)
  have HL4 : Hid (Below w0'.heap.size w0' w4) := by rw [hw4]; exact HL3.out.trans (below_drewN _ _ _)
  clear hw4 HB3 HR3 HL3
  go_wp2_with fail
  refine (zzCat_any w0'.heap.size none a2 0 0 P.length c2 [] P w4 HL4.out.size (View.nil _ _) (HV2.out.below HL4.out (Nat.le_refl _)) (by simp; omega)).mono ?_
  rintro e w5 ⟨x5, rfl, hx5, L5⟩
  rw [List.nil_append] at hx5
  obtain ⟨a5, cap5, rfl⟩ : ∃ a cap, x5 = .slice a P.length cap := by obtain ⟨a, cap, h, _⟩ := hx5; exact ⟨a, cap, by rw [h]⟩
  have HX5 := hid hx5
  have HB5 : Hid (Blk w5 ib b v3 (whole1 B) (errAt p)) := HB4.out.old L5
  have HR5 : Hid (Rest w0'.heap.size w5 b (.slice (some ⟨rx, 0, none⟩) P.length capx) (.slice ay B.length capy) (cells (P)) (cells (B))) := HR4.out.old L5
  have HL5 : Hid (Below w0'.heap.size w0' w5) := HL4.out.trans (L5.mono HL4.out.size)
  clear hx5 L5 HB4 HR4 HL4
  go_wp2_with fail
  refine (zzEq_any w5.heap.size (some ⟨rx, 0, none⟩) a5 P.length capx P.length cap5 (P) w5 (view_of_held HR5.out) HX5.out).mono ?_
  rintro e w7 ⟨rfl, k, hw7⟩
  have HB7 : Hid (Blk w7 ib b v3 (whole1 B) (errAt p)) := by rw [hw7]; exact HB5.out.old (below_drewN _ _ _)
  have HR7 : Hid (Rest w0'.heap.size w7 b (.slice (some ⟨rx, 0, none⟩) P.length capx) (.slice ay B.length capy) (cells (P)) (cells (B))) := by rw [hw7]; exact HR5.out.old (below_drewN _ _ _)
  have HL7 : Hid (Below w0'.heap.size w0' w7) := by rw [hw7]; exact HL5.out.trans (below_drewN _ _ _)
  clear hw7 HB5 HR5 HL5
  go_wp2_with fail
  refine (zzEq_any w7.heap.size ay a1 B.length capy B.length c1 (B) w7 (view_written HR7.out.sink) ((HV1.out.below HL7.out (Nat.le_refl _)).mono HL7.out.size)).mono ?_
  rintro e w8 ⟨rfl, k', hw8⟩
  have HB8 : Hid (Blk w8 ib b v3 (whole1 B) (errAt p)) := by rw [hw8]; exact HB7.out.old (below_drewN _ _ _)
  have HR8 : Hid (Rest w0'.heap.size w8 b (.slice (some ⟨rx, 0, none⟩) P.length capx) (.slice ay B.length capy) (cells (P)) (cells (B))) := by rw [hw8]; exact HR7.out.old (below_drewN _ _ _)
  have HL8 : Hid (Below w0'.heap.size w0' w8) := by rw [hw8]; exact HL7.out.trans (below_drewN _ _ _)
  clear hw8 HB7 HR7 HL7
  go_wp2_with fail
  refine (Done_keep w0'.heap.size ib b _ v3 _ _ _ _ _ true w8 hib HB8.out HR8.out hgl.out).mono ?_
  rintro e w9 ⟨rfl, -, -, L9⟩
  have HF : Hid (Below w0'.heap.size w0' w9) := HL8.out.trans L9
  have ne := neq34err p
  unfold errAt
  clear L9 HB8 HR8 HL8
  go_wp2_with fail
  go_ret
  exact ⟨rfl, HF.out⟩

set_option maxHeartbeats 2000000 in
theorem law8_case3 (a1 a2 : Option Addr) (c1 c2 : Nat) (B P : List Nat) (w : World) (hV1 : View w.heap.size w (.slice a1 B.length c1) B) (hV2 : View w.heap.size w (.slice a2 P.length c2) P) (h1 : B.length ≤ 524288) (h2 : P.length ≤ 524288) (hF : ¬ 65536 ≤ B.length) (hT : 65536 ≤ B.length + P.length) :
    Calls Try.prog 8 #[.slice a1 B.length c1, .slice a2 P.length c2] w fun e w' => e = .returned (.bool true) ∧ Below w.heap.size w w' := by
  have z := hid (zzb25_yes a1 a2 B.length c1 P.length c2 w (by omega))
  have k1 : decide ((524288 : Int) < (B.length : Int)) = false := by simp; omega
  have k2 : decide ((524288 : Int) < (P.length : Int)) = false := by simp; omega
  have f2 : decide ((B.length : Int) + (P.length : Int) < 65536) = false := by simp; omega
  have A := zzAfterFirst_any a1 B.length c1 w
  rw [if_neg hF] at A
  have HA := hid A
  have eh : held1 B = B := by simp [held1, hF]
  have eo : out1 B = [] := by simp [out1, hF]
  have eg : got8 B P = B := by rw [got8, eh, if_neg (by omega)]
  have hgl : Hid ((cells (B)).length < 65536) := (show _ < _ from by rw [length_cells]; omega)
  have EG := hid eg
  have EO := hid eo
  have HV1 := hid hV1
  have HV2 := hid hV2
  clear hV1 hV2 eg eh eo A hF hT
  go_enter Try.func8, Try.ntmps8
  go_wp2_with fail
  refine z.out.mono ?_
  rintro e w0 ⟨rfl, rfl⟩
  clear z
  go_wp2_with fail
  refine HA.out.mono ?_
  rintro e w0' ⟨rfl, rfl⟩
  clear HA
  go_wp2_with fail
  refine (zzStart_any _ a1 B.length c1 B _ (Nat.le_refl _) HV1.out (by omega)).mono ?_
  rintro e w1 ⟨ib, b, v, sv, rfl, hib, B1, R1, L1⟩
  have HB1 := hid B1
  have HR1 := hid R1
  have HL1 := hid L1
  clear B1 R1 L1
  go_wp2_with fail
  refine (ZZFail_any _ ib b _ v sv _ _ w1 hib HB1.out HR1.out).mono ?_
  rintro e wf ⟨rfl, p, Bf, Rf, Lf⟩
  have HBf := hid Bf
  have HRf := hid Rf
  have HLf : Hid (Below w0'.heap.size w0' wf) := HL1.out.trans Lf
  clear Bf Rf Lf HB1 HR1 HL1
  go_wp2_with fail
  refine (Buffer_any _ _ _ _ _ _ HBf.out).mono ?_
  rintro e wf' ⟨rfl, rfl⟩
  obtain ⟨v1, w2, r2, B2, R2, L2⟩ := append_rest HBf.out HRf.out (HV2.out.below HLf.out (Nat.le_refl _)) (by rw [length_cells]; have : (held1 B).length ≤ B.length := (by unfold held1; split <;> simp); omega)
  have HB2 := hid B2
  have HR2 := hid R2
  have HL2 := hid L2
  clear B2 R2 L2
  go_wp2_with (refine Lib.wpList_append_run _ rfl (.tmp 43) (.tmp 44) 22 22 rfl _ _ rfl rfl _ _ r2 ?_)
  refine (MakeRoom_failed _ ib b _ v1 sv p B P w2 hib HB2.out HR2.out).mono ?_
  rintro e w3 ⟨x, rfl, v3, B3, R3, L3⟩
  rw [EG.out, EO.out] at R3
  obtain ⟨rx, capx, rfl⟩ : ∃ r cap, x = .slice (some ⟨r, 0, none⟩) B.length cap := by obtain ⟨r, cap, h⟩ := R3.slice; exact ⟨r, cap, by rw [h]⟩
  obtain ⟨ay, capy, hy⟩ : ∃ a cap, sv = .slice a 0 cap := by obtain ⟨a, cap, h⟩ := R3.sink.slice; exact ⟨a, cap, by rw [h]; rfl⟩
  subst hy
  have HB3 := hid B3
  have HR3 := hid R3
  have HL3 : Hid (Below w0'.heap.size w0' w3) := (HLf.out.trans HL2.out).trans L3
  clear B3 R3 L3 r2 HBf HRf HB2 HR2 HLf HL2
  go_wp2_with fail
  refine (Written_any _ b _ _ _ HR3.out.sink).mono ?_
  rintro e w4 ⟨rfl, hw4⟩
  have HB4 : Hid (Blk w4 ib b v3 (whole1 B) (errAt p)) := by rw [hw4]; exact HB3.out.old (below_drewN _ _ _)
  have HR4 : Hid (Rest w0'.heap.size w4 b (.slice (some ⟨rx, 0, none⟩) B.length capx) (.slice ay 0 capy) (cells (B)) (cells ([]))) := by rw [hw4]; exact HR3.out.old (below_drewN _ _ _)
  have HL4 : Hid (Below w0'.heap.size w0' w4) := by rw [hw4]; exact HL3.out.trans (below_drewN _ _ _)
  clear hw4 HB3 HR3 HL3
  go_wp2_with fail
  refine (zzEq_any w4.heap.size (some ⟨rx, 0, none⟩) a1 B.length capx B.length c1 (B) w4 (view_of_held HR4.out) ((HV1.out.below HL4.out (Nat.le_refl _)).mono HL4.out.size)).mono ?_
  rintro e w7 ⟨rfl, k, hw7⟩
  have HB7 : Hid (Blk w7 ib b v3 (whole1 B) (errAt p)) := by rw [hw7]; exact HB4.out.old (below_drewN _ _ _)
  have HR7 : Hid (Rest w0'.heap.size w7 b (.slice (some ⟨rx, 0, none⟩) B.length capx) (.slice ay 0 capy) (cells (B)) (cells ([]))) := by rw [hw7]; exact HR4.out.old (below_drewN _ _ _)
  have HL7 : Hid (Below w0'.heap.size w0' w7) := by rw [hw7]; exact HL4.out.trans (below_drewN _ _ _)
  clear hw7 HB4 HR4 HL4
  go_wp2_with fail
  refine (zzEq_any w7.heap.size ay none 0 capy 0 0 ([]) w7 (view_written HR7.out.sink) (View.nil _ _)).mono ?_
  rintro e w8 ⟨rfl, k', hw8⟩
  have HB8 : Hid (Blk w8 ib b v3 (whole1 B) (errAt p)) := by rw [hw8]; exact HB7.out.old (below_drewN _ _ _)
  have HR8 : Hid (Rest w0'.heap.size w8 b (.slice (some ⟨rx, 0, none⟩) B.length capx) (.slice ay 0 capy) (cells (B)) (cells ([]))) := by rw [hw8]; exact HR7.out.old (below_drewN _ _ _)
  have HL8 : Hid (Below w0'.heap.size w0' w8) := by rw [hw8]; exact HL7.out.trans (below_drewN _ _ _)
  clear hw8 HB7 HR7 HL7
  go_wp2_with fail
  refine (Done_keep w0'.heap.size ib b _ v3 _ _ _ _ _ true w8 hib HB8.out HR8.out hgl.out).mono ?_
  rintro e w9 ⟨rfl, -, -, L9⟩
  have HF : Hid (Below w0'.heap.size w0' w9) := HL8.out.trans L9
  have ne := neq34err p
  unfold errAt
  clear L9 HB8 HR8 HL8
  go_wp2_with fail
  go_ret
  exact ⟨rfl, HF.out⟩

set_option maxHeartbeats 2000000 in
theorem law8_case4 (a1 a2 : Option Addr) (c1 c2 : Nat) (B P : List Nat) (w : World) (hV1 : View w.heap.size w (.slice a1 B.length c1) B) (hV2 : View w.heap.size w (.slice a2 P.length c2) P) (h1 : B.length ≤ 524288) (h2 : P.length ≤ 524288) (hF : ¬ 65536 ≤ B.length) (hT : ¬ 65536 ≤ B.length + P.length) :
    Calls Try.prog 8 #[.slice a1 B.length c1, .slice a2 P.length c2] w fun e w' => e = .returned (.bool true) ∧ Below w.heap.size w w' := by
  have z := hid (zzb25_yes a1 a2 B.length c1 P.length c2 w (by omega))
  have k1 : decide ((524288 : Int) < (B.length : Int)) = false := by simp; omega
  have k2 : decide ((524288 : Int) < (P.length : Int)) = false := by simp; omega
  have f2 : decide ((B.length : Int) + (P.length : Int) < 65536) = true := by simp; omega
  have A := zzAfterFirst_any a1 B.length c1 w
  rw [if_neg hF] at A
  have HA := hid A
  have eh : held1 B = B := by simp [held1, hF]
  have eo : out1 B = [] := by simp [out1, hF]
  have eg : got8 B P = B ++ P := by rw [got8, eh, if_pos (by omega)]
  have hgl : Hid ((cells (B ++ P)).length < 65536) := (show _ < _ from by rw [length_cells, List.length_append]; omega)
  have EG := hid eg
  have EO := hid eo
  have HV1 := hid hV1
  have HV2 := hid hV2
  clear hV1 hV2 eg eh eo A hF hT
  go_enter Try.func8, Try.ntmps8
  go_wp2_with fail
  refine z.out.mono ?_
  rintro e w0 ⟨rfl, rfl⟩
  clear z
  go_wp2_with fail
  refine HA.out.mono ?_
  rintro e w0' ⟨rfl, rfl⟩
  clear HA
  go_wp2_with fail
  refine (zzStart_any _ a1 B.length c1 B _ (Nat.le_refl _) HV1.out (by omega)).mono ?_
  rintro e w1 ⟨ib, b, v, sv, rfl, hib, B1, R1, L1⟩
  have HB1 := hid B1
  have HR1 := hid R1
  have HL1 := hid L1
  clear B1 R1 L1
  go_wp2_with fail
  refine (ZZFail_any _ ib b _ v sv _ _ w1 hib HB1.out HR1.out).mono ?_
  rintro e wf ⟨rfl, p, Bf, Rf, Lf⟩
  have HBf := hid Bf
  have HRf := hid Rf
  have HLf : Hid (Below w0'.heap.size w0' wf) := HL1.out.trans Lf
  clear Bf Rf Lf HB1 HR1 HL1
  go_wp2_with fail
  refine (Buffer_any _ _ _ _ _ _ HBf.out).mono ?_
  rintro e wf' ⟨rfl, rfl⟩
  obtain ⟨v1, w2, r2, B2, R2, L2⟩ := append_rest HBf.out HRf.out (HV2.out.below HLf.out (Nat.le_refl _)) (by rw [length_cells]; have : (held1 B).length ≤ B.length := (by unfold held1; split <;> simp); omega)
  have HB2 := hid B2
  have HR2 := hid R2
  have HL2 := hid L2
  clear B2 R2 L2
  go_wp2_with (refine Lib.wpList_append_run _ rfl (.tmp 43) (.tmp 44) 22 22 rfl _ _ rfl rfl _ _ r2 ?_)
  refine (MakeRoom_failed _ ib b _ v1 sv p B P w2 hib HB2.out HR2.out).mono ?_
  rintro e w3 ⟨x, rfl, v3, B3, R3, L3⟩
  rw [EG.out, EO.out] at R3
  obtain ⟨rx, capx, rfl⟩ : ∃ r cap, x = .slice (some ⟨r, 0, none⟩) (B.length + P.length) cap := by obtain ⟨r, cap, h⟩ := R3.slice; exact ⟨r, cap, by rw [h, List.length_append]⟩
  obtain ⟨ay, capy, hy⟩ : ∃ a cap, sv = .slice a 0 cap := by obtain ⟨a, cap, h⟩ := R3.sink.slice; exact ⟨a, cap, by rw [h]; rfl⟩
  subst hy
  have HB3 := hid B3
  have HR3 := hid R3
  have HL3 : Hid (Below w0'.heap.size w0' w3) := (HLf.out.trans HL2.out).trans L3
  clear B3 R3 L3 r2 HBf HRf HB2 HR2 HLf HL2
  go_wp2_with fail
  refine (Written_any _ b _ _ _ HR3.out.sink).mono ?_
  rintro e w4 ⟨rfl, hw4⟩
  have HB4 : Hid (Blk w4 ib b v3 (whole1 B) (errAt p)) := by rw [hw4]; exact HB3.out.old (below_drewN _ _ _)
  have HR4 : Hid (Rest w0'.heap.size w4 b (.slice (some ⟨rx, 0, none⟩) (B.length + P.length) capx) (.slice ay 0 capy) (cells (B ++ P)) (cells ([]))) := by rw [hw4]; exact HR3.out.old (below_drewN _ _ _)
  have HL4 : Hid (Below w0'.heap.size w0' w4) := by rw [hw4]; exact HL3.out.trans (below_drewN _ _ _)
  clear hw4 HB3 HR3 HL3
  go_wp2_with fail
  refine (zzCat_any w0'.heap.size a1 a2 B.length c1 P.length c2 B P w4 HL4.out.size (HV1.out.below HL4.out (Nat.le_refl _)) (HV2.out.below HL4.out (Nat.le_refl _)) (by omega)).mono ?_
  rintro e w5 ⟨x5, rfl, hx5, L5⟩
  obtain ⟨a5, cap5, rfl⟩ : ∃ a cap, x5 = .slice a (B.length + P.length) cap := by obtain ⟨a, cap, h, _⟩ := hx5; exact ⟨a, cap, by rw [h, List.length_append]⟩
  have HX5 := hid hx5
  have HB5 : Hid (Blk w5 ib b v3 (whole1 B) (errAt p)) := HB4.out.old L5
  have HR5 : Hid (Rest w0'.heap.size w5 b (.slice (some ⟨rx, 0, none⟩) (B.length + P.length) capx) (.slice ay 0 capy) (cells (B ++ P)) (cells ([]))) := HR4.out.old L5
  have HL5 : Hid (Below w0'.heap.size w0' w5) := HL4.out.trans (L5.mono HL4.out.size)
  clear hx5 L5 HB4 HR4 HL4
  go_wp2_with fail
  refine (zzEq_any w5.heap.size (some ⟨rx, 0, none⟩) a5 (B.length + P.length) capx (B.length + P.length) cap5 (B ++ P) w5 (view_of_held HR5.out) HX5.out).mono ?_
  rintro e w7 ⟨rfl, k, hw7⟩
  have HB7 : Hid (Blk w7 ib b v3 (whole1 B) (errAt p)) := by rw [hw7]; exact HB5.out.old (below_drewN _ _ _)
  have HR7 : Hid (Rest w0'.heap.size w7 b (.slice (some ⟨rx, 0, none⟩) (B.length + P.length) capx) (.slice ay 0 capy) (cells (B ++ P)) (cells ([]))) := by rw [hw7]; exact HR5.out.old (below_drewN _ _ _)
  have HL7 : Hid (Below w0'.heap.size w0' w7) := by rw [hw7]; exact HL5.out.trans (below_drewN _ _ _)
  clear hw7 HB5 HR5 HL5
  go_wp2_with fail
  refine (zzEq_any w7.heap.size ay none 0 capy 0 0 ([]) w7 (view_written HR7.out.sink) (View.nil _ _)).mono ?_
  rintro e w8 ⟨rfl, k', hw8⟩
  have HB8 : Hid (Blk w8 ib b v3 (whole1 B) (errAt p)) := by rw [hw8]; exact HB7.out.old (below_drewN _ _ _)
  have HR8 : Hid (Rest w0'.heap.size w8 b (.slice (some ⟨rx, 0, none⟩) (B.length + P.length) capx) (.slice ay 0 capy) (cells (B ++ P)) (cells ([]))) := by rw [hw8]; exact HR7.out.old (below_drewN _ _ _)
  have HL8 : Hid (Below w0'.heap.size w0' w8) := by rw [hw8]; exact HL7.out.trans (below_drewN _ _ _)
  clear hw8 HB7 HR7 HL7
  go_wp2_with fail
  refine (Done_keep w0'.heap.size ib b _ v3 _ _ _ _ _ true w8 hib HB8.out HR8.out hgl.out).mono ?_
  rintro e w9 ⟨rfl, -, -, L9⟩
  have HF : Hid (Below w0'.heap.size w0' w9) := HL8.out.trans L9
  have ne := neq34err p
  unfold errAt
  clear L9 HB8 HR8 HL8
  go_wp2_with fail
  go_ret
  exact ⟨rfl, HF.out⟩

end Go.Proofs.Qxb6612279a
