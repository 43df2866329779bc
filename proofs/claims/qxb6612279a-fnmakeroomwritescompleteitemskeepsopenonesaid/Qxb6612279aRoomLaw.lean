/- The walk of the law FnMakeRoomWritesCompleteItemsKeepsOpenOne (seat b6612279a). -/
import Derived.Test.Qxb6612279aSecond
namespace Go.Proofs.Qxb6612279a
open Go.RowKit

/-- What MakeRoom hands back, and what has been written behind it. -/
def got7 (B P : List Nat) : List Nat := if (held1 B).length + P.length < 65536 then held1 B ++ P else if 65536 ≤ B.length then [] else P
def out7 (B P : List Nat) : List Nat := if (held1 B).length + P.length < 65536 then out1 B else if 65536 ≤ B.length then B ++ P else B

theorem MakeRoom_second (N ib b : Nat) (v0 v sv : Value) (B P : List Nat) (w : World) (hNi : N ≤ ib) (hB : Blk w ib b v0 (whole1 B) .nilIface) (h : Rest N w b v sv (cells (held1 B) ++ cells P) (cells (out1 B))) (h1 : B.length ≤ 1048576) (h2 : P.length ≤ 1048576) :
    Calls Try.prog 23 #[.pointer (some ⟨ib, 0, none⟩), v] w fun e w' => ∃ x, e = .returned x ∧ ∃ sv', View w'.heap.size w' x (got7 B P) ∧ Sink N w' b sv' (cells (out7 B P)) ∧ Below N w w' := by
  rw [← cells_append] at h
  have hl := length_cells (held1 B ++ P)
  rw [List.length_append] at hl
  have ho := length_cells (out1 B)
  have hob : (out1 B).length + (held1 B).length = B.length := by rw [← List.length_append, out_held]
  have hview := view_held h
  obtain ⟨R, cap, hv⟩ := h.slice
  by_cases hlt : (held1 B).length + P.length < 65536
  · have e1 : got7 B P = held1 B ++ P := by rw [got7, if_pos hlt]
    have e2 : out7 B P = out1 B := by rw [out7, if_pos hlt]
    rw [e1, e2]
    rw [hv]
    refine (MakeRoom_below ib R _ cap w (by rw [List.length_append]; exact hlt)).mono ?_
    rintro e w' ⟨he, rfl⟩
    rw [hv] at hview
    exact ⟨_, he, sv, hview, h.sink, Below.refl _ _⟩
  · have B1 := hB.set1 v
    have R1 := h.setIb hB 1 v
    have L1 : Below N w (w.setCell ⟨ib, 1, none⟩ v) := (Below.refl N w).setCell (p := ⟨ib, 1, none⟩) hNi v
    have hrun : Calls Try.prog 35 #[.pointer (some ⟨ib, 0, none⟩), v] w fun e w' => ∃ x, e = .returned x ∧ ∃ sv', View w'.heap.size w' x (got7 B P) ∧ Sink N w' b sv' (cells (out7 B P)) ∧ Below N w w' := by
      refine makeRoom_run N ib b _ v0 v sv _ _ w hB h _ ?_
      by_cases hge : 65536 ≤ B.length
      · have e1 : got7 B P = [] := by rw [got7, if_neg hlt, if_pos hge]
        have e2 : out7 B P = B ++ P := by rw [out7, if_neg hlt, if_pos hge]
        have hw : whole1 B = -1 := by simp [whole1, hge]
        rw [e1, e2]
        refine (writeFull_part N ib b _ v sv _ _ .nilIface _ hNi B1 (by rw [hw]; omega) R1 (by omega)).mono ?_
        rintro e w' ⟨he, v', sv', B', R', L'⟩
        have hR' : Rest N w' b v' sv' (cells []) (cells (B ++ P)) := by
          rw [← cells_append, ← List.append_assoc, out_held] at R'
          exact R'
        exact ⟨he, v', B'.cell1, sv', view_held hR', hR'.sink, L1.trans L'⟩
      · have e1 : got7 B P = P := by rw [got7, if_neg hlt, if_neg hge]
        have e2 : out7 B P = B := by rw [out7, if_neg hlt, if_neg hge]
        have hw : whole1 B = B.length := by simp [whole1, hge]
        have hh : held1 B = B := by simp [held1, hge]
        have hoo : out1 B = [] := by simp [out1, hge]
        rw [e1, e2]
        rw [hw] at B1
        refine (writeFull_whole N ib b B.length v sv _ _ .nilIface _ hNi B1 R1 (by rw [hl, hh]; omega) (by omega)).mono ?_
        rintro e w' ⟨he, v', sv', B', R', L'⟩
        rw [hh, cells_drop, cells_take, hoo, ← cells_append, List.drop_left, List.take_left, List.nil_append] at R'
        exact ⟨he, v', B'.cell1, sv', view_held R', R'.sink, L1.trans L'⟩
    rw [hv] at hrun ⊢
    exact MakeRoom_run ib R _ cap w (by rw [List.length_append]; omega) _ hrun

set_option maxHeartbeats 400000 in
theorem law7_far (a1 a2 : Option Addr) (l1 c1 l2 c2 : Nat) (w : World) (m1 : l1 ≤ maxLen) (m2 : l2 ≤ maxLen) (h : ¬ l1 + l2 ≤ 1048576) :
    Calls Try.prog 7 #[.slice a1 l1 c1, .slice a2 l2 c2] w fun e w' => e = .returned (.bool true) ∧ Below w.heap.size w w' := by
  have z := hid (zzb24_no a1 a2 l1 c1 l2 c2 w m1 m2 h)
  clear m1 m2 h
  go_enter Try.func7, Try.ntmps7
  go_wp2_with fail
  refine z.out.mono ?_
  rintro e w' ⟨rfl, rfl⟩
  go_wp2_with fail
  go_ret
  exact ⟨rfl, Below.refl _ _⟩

set_option maxHeartbeats 400000 in
theorem law7_mid (a1 a2 : Option Addr) (l1 c1 l2 c2 : Nat) (w : World) (h : l1 + l2 ≤ 1048576) (hh : ¬ (l1 ≤ 524288 ∧ l2 ≤ 524288)) :
    Calls Try.prog 7 #[.slice a1 l1 c1, .slice a2 l2 c2] w fun e w' => e = .returned (.bool true) ∧ Below w.heap.size w w' := by
  have z := hid (zzb24_yes a1 a2 l1 c1 l2 c2 w h)
  by_cases k : l1 ≤ 524288
  · have k1 : decide ((524288 : Int) < (l1 : Int)) = false := by simp; omega
    have k2 : decide ((524288 : Int) < (l2 : Int)) = true := by simp; omega
    clear h hh k
    go_enter Try.func7, Try.ntmps7
    go_wp2_with fail
    refine z.out.mono ?_
    rintro e w' ⟨rfl, rfl⟩
    go_wp2_with fail
    go_ret
    exact ⟨rfl, Below.refl _ _⟩
  · have k1 : decide ((524288 : Int) < (l1 : Int)) = true := by simp; omega
    clear h hh k
    go_enter Try.func7, Try.ntmps7
    go_wp2_with fail
    refine z.out.mono ?_
    rintro e w' ⟨rfl, rfl⟩
    go_wp2_with fail
    go_ret
    exact ⟨rfl, Below.refl _ _⟩

theorem View.slice {N : Nat} {w : World} {v : Value} {bs : List Nat} (h : View N w v bs) : ∃ a cap, v = .slice a bs.length cap := by
  obtain ⟨a, cap, h, _⟩ := h
  exact ⟨a, cap, h⟩

set_option maxHeartbeats 2000000 in
theorem law7_case1 (a1 a2 : Option Addr) (c1 c2 : Nat) (B P : List Nat) (w : World) (hV1 : View w.heap.size w (.slice a1 B.length c1) B) (hV2 : View w.heap.size w (.slice a2 P.length c2) P) (h1 : B.length ≤ 524288) (h2 : P.length ≤ 524288) (hF : 65536 ≤ B.length) (hT : 65536 ≤ P.length) :
    Calls Try.prog 7 #[.slice a1 B.length c1, .slice a2 P.length c2] w fun e w' => e = .returned (.bool true) ∧ Below w.heap.size w w' := by
  have z := hid (zzb24_yes a1 a2 B.length c1 P.length c2 w (by omega))
  have k1 : decide ((524288 : Int) < (B.length : Int)) = false := by simp; omega
  have k2 : decide ((524288 : Int) < (P.length : Int)) = false := by simp; omega
  have f1 : decide ((B.length : Int) < 65536) = false := by simp; omega
  have f2 : decide ((65536 : Int) ≤ (P.length : Int)) = true := by simp; omega
  have A := zzAfterFirst_any a1 B.length c1 w
  rw [if_pos hF] at A
  have HA := hid A
  have eh : held1 B = [] := by simp [held1, hF]
  have eg : got7 B P = [] := by rw [got7, eh, if_neg (by simp; omega), if_pos hF]
  have ew : out7 B P = B ++ P := by rw [out7, eh, if_neg (by simp; omega), if_pos hF]
  have EG := hid eg
  have EW := hid ew
  have EH := hid eh
  have HV1 := hid hV1
  have HV2 := hid hV2
  clear hV1 hV2 eg ew eh A hF hT
  go_enter Try.func7, Try.ntmps7
  go_wp2_with fail
  refine z.out.mono ?_
  rintro e w0 ⟨rfl, rfl⟩
  clear z
  go_wp2_with fail
  refine HA.out.mono ?_
  rintro e w0' ⟨rfl, rfl⟩
  clear HA
  go_wp2_with fail
  refine (zzStart_any _ a1 B.length c1 B _ (Nat.le_refl _) HV1.out (by omega)).mono ?_
  rintro e w1 ⟨ib, b, v, sv, rfl, hib, B1, R1, L1⟩
  have HB1 := hid B1
  have HR1 := hid R1
  have HL1 := hid L1
  clear B1 R1 L1
  go_wp2_with fail
  refine (Buffer_any _ _ _ _ _ _ HB1.out).mono ?_
  rintro e w1' ⟨rfl, rfl⟩
  obtain ⟨v1, w2, r2, B2, R2, L2⟩ := append_rest HB1.out HR1.out (HV2.out.below HL1.out (Nat.le_refl _)) (by rw [length_cells]; have : (held1 B).length ≤ B.length := (by unfold held1; split <;> simp); omega)
  have HB2 := hid B2
  have HR2 := hid R2
  have HL2 := hid L2
  clear B2 R2 L2
  go_wp2_with (refine Lib.wpList_append_run _ rfl (.tmp 40) (.tmp 41) 22 22 rfl _ _ rfl rfl _ _ r2 ?_)
  refine (MakeRoom_second _ ib b _ v1 sv B P w2 hib HB2.out HR2.out (by omega) (by omega)).mono ?_
  rintro e w3 ⟨x, rfl, sv3, hx, hs, L3⟩
  rw [EG.out] at hx
  rw [EW.out] at hs
  obtain ⟨ax, capx, rfl⟩ : ∃ a cap, x = .slice a 0 cap := by obtain ⟨a, cap, h⟩ := hx.slice; exact ⟨a, cap, by rw [h]; rfl⟩
  obtain ⟨ay, capy, hy⟩ : ∃ a cap, sv3 = .slice a (B.length + P.length) cap := by obtain ⟨a, cap, h⟩ := hs.slice; exact ⟨a, cap, by rw [h, List.length_append]⟩
  subst hy
  have HX := hid hx
  have HS := hid hs
  have HL3 := hid L3
  clear hx hs L3 r2 HB1 HR1 HB2 HR2
  go_wp2_with fail
  refine (Written_any _ b _ _ _ HS.out).mono ?_
  rintro e w4 ⟨rfl, hw4⟩
  have HX4 : Hid (View w4.heap.size w4 (.slice ax 0 capx) ([])) := by rw [hw4]; exact HX.out.below (below_drewN _ _ _) (Nat.le_refl _)
  have HY4 : Hid (View w4.heap.size w4 (.slice ay (B.length + P.length) capy) (B ++ P)) := by rw [hw4]; exact (view_written HS.out).below (below_drewN _ _ _) (Nat.le_refl _)
  have HL4 : Hid (Below w0'.heap.size w0' w4) := by rw [hw4]; exact ((HL1.out.trans HL2.out).trans HL3.out).trans (below_drewN _ _ _)
  clear hw4 HX HS HL1 HL2 HL3
  go_wp2_with fail
  refine (zzCat_any w0'.heap.size none a2 0 0 P.length c2 [] P w4 HL4.out.size (View.nil _ _) (HV2.out.below HL4.out (Nat.le_refl _)) (by simp; omega)).mono ?_
  rintro e w5 ⟨x5, rfl, hx5, L5⟩
  rw [List.nil_append] at hx5
  obtain ⟨a5, cap5, rfl⟩ : ∃ a cap, x5 = .slice a P.length cap := by obtain ⟨a, cap, h⟩ := hx5.slice; exact ⟨a, cap, by rw [h]⟩
  have HX5 := hid hx5
  have HG5 : Hid (View w5.heap.size w5 (.slice ax 0 capx) ([])) := (HX4.out.below L5 (Nat.le_refl _)).mono L5.size
  have HY5 : Hid (View w5.heap.size w5 (.slice ay (B.length + P.length) capy) (B ++ P)) := (HY4.out.below L5 (Nat.le_refl _)).mono L5.size
  have HL5 : Hid (Below w0'.heap.size w0' w5) := HL4.out.trans (L5.mono HL4.out.size)
  clear hx5 L5 HX4 HY4 HL4
  go_wp2_with fail
  refine (zzCat_any w0'.heap.size a1 a2 B.length c1 P.length c2 B P w5 HL5.out.size (HV1.out.below HL5.out (Nat.le_refl _)) (HV2.out.below HL5.out (Nat.le_refl _)) (by omega)).mono ?_
  rintro e w6 ⟨x6, rfl, hx6, L6⟩
  obtain ⟨a6, cap6, rfl⟩ : ∃ a cap, x6 = .slice a (B.length + P.length) cap := by obtain ⟨a, cap, h⟩ := hx6.slice; exact ⟨a, cap, by rw [h, List.length_append]⟩
  have HX6 := hid hx6
  have HG6 : Hid (View w6.heap.size w6 (.slice ax 0 capx) ([])) := (HG5.out.below L6 (Nat.le_refl _)).mono L6.size
  have HY6 : Hid (View w6.heap.size w6 (.slice ay (B.length + P.length) capy) (B ++ P)) := (HY5.out.below L6 (Nat.le_refl _)).mono L6.size
  have HL6 : Hid (Below w0'.heap.size w0' w6) := HL5.out.trans (L6.mono HL5.out.size)
  clear hx6 L6 HG5 HY5 HL5 HX5
  go_wp2_with fail
  refine (zzEq_any w6.heap.size ax none 0 capx 0 0 ([]) w6 HG6.out (View.nil _ _)).mono ?_
  rintro e w7 ⟨rfl, k, hw7⟩
  have HQ1 : Hid (View w7.heap.size w7 (.slice ay (B.length + P.length) capy) (B ++ P)) := by rw [hw7]; exact HY6.out.below (below_drewN _ _ _) (Nat.le_refl _)
  have HQ2 : Hid (View w7.heap.size w7 (.slice a6 (B.length + P.length) cap6) (B ++ P)) := by rw [hw7]; exact View.below (w := w6) HX6.out (below_drewN _ _ _) (Nat.le_refl _)
  have HL7 : Hid (Below w0'.heap.size w0' w7) := by rw [hw7]; exact HL6.out.trans (below_drewN _ _ _)
  clear hw7
  go_wp2_with fail
  refine (zzEq_any w7.heap.size ay a6 (B.length + P.length) capy (B.length + P.length) cap6 (B ++ P) w7 HQ1.out HQ2.out).mono ?_
  rintro e w8 ⟨rfl, k', hw8⟩
  have HF : Hid (Below w0'.heap.size w0' w8) := by rw [hw8]; exact HL7.out.trans (below_drewN _ _ _)
  clear hw8
  go_wp2_with fail
  go_ret
  exact ⟨rfl, HF.out⟩

set_option maxHeartbeats 2000000 in
theorem law7_case2 (a1 a2 : Option Addr) (c1 c2 : Nat) (B P : List Nat) (w : World) (hV1 : View w.heap.size w (.slice a1 B.length c1) B) (hV2 : View w.heap.size w (.slice a2 P.length c2) P) (h1 : B.length ≤ 524288) (h2 : P.length ≤ 524288) (hF : 65536 ≤ B.length) (hT : ¬ 65536 ≤ P.length) :
    Calls Try.prog 7 #[.slice a1 B.length c1, .slice a2 P.length c2] w fun e w' => e = .returned (.bool true) ∧ Below w.heap.size w w' := by
  have z := hid (zzb24_yes a1 a2 B.length c1 P.length c2 w (by omega))
  have k1 : decide ((524288 : Int) < (B.length : Int)) = false := by simp; omega
  have k2 : decide ((524288 : Int) < (P.length : Int)) = false := by simp; omega
  have f1 : decide ((B.length : Int) < 65536) = false := by simp; omega
  have f2 : decide ((65536 : Int) ≤ (P.length : Int)) = false := by simp; omega
  have A := zzAfterFirst_any a1 B.length c1 w
  rw [if_pos hF] at A
  have HA := hid A
  have eh : held1 B = [] := by simp [held1, hF]
  have eo : out1 B = B := by simp [out1, hF]
  have eg : got7 B P = P := by rw [got7, eh, if_pos (by simp; omega), List.nil_append]
  have ew : out7 B P = B := by rw [out7, eh, if_pos (by simp; omega), eo]
  have EG := hid eg
  have EW := hid ew
  have EH := hid eh
  have HV1 := hid hV1
  have HV2 := hid hV2
  clear hV1 hV2 eg ew eh A hF hT eo
  go_enter Try.func7, Try.ntmps7
  go_wp2_with fail
  refine z.out.mono ?_
  rintro e w0 ⟨rfl, rfl⟩
  clear z
  go_wp2_with fail
  refine HA.out.mono ?_
  rintro e w0' ⟨rfl, rfl⟩
  clear HA
  go_wp2_with fail
  refine (zzStart_any _ a1 B.length c1 B _ (Nat.le_refl _) HV1.out (by omega)).mono ?_
  rintro e w1 ⟨ib, b, v, sv, rfl, hib, B1, R1, L1⟩
  have HB1 := hid B1
  have HR1 := hid R1
  have HL1 := hid L1
  clear B1 R1 L1
  go_wp2_with fail
  refine (Buffer_any _ _ _ _ _ _ HB1.out).mono ?_
  rintro e w1' ⟨rfl, rfl⟩
  obtain ⟨v1, w2, r2, B2, R2, L2⟩ := append_rest HB1.out HR1.out (HV2.out.below HL1.out (Nat.le_refl _)) (by rw [length_cells]; have : (held1 B).length ≤ B.length := (by unfold held1; split <;> simp); omega)
  have HB2 := hid B2
  have HR2 := hid R2
  have HL2 := hid L2
  clear B2 R2 L2
  go_wp2_with (refine Lib.wpList_append_run _ rfl (.tmp 40) (.tmp 41) 22 22 rfl _ _ rfl rfl _ _ r2 ?_)
  refine (MakeRoom_second _ ib b _ v1 sv B P w2 hib HB2.out HR2.out (by omega) (by omega)).mono ?_
  rintro e w3 ⟨x, rfl, sv3, hx, hs, L3⟩
  rw [EG.out] at hx
  rw [EW.out] at hs
  obtain ⟨ax, capx, rfl⟩ : ∃ a cap, x = .slice a P.length cap := by obtain ⟨a, cap, h⟩ := hx.slice; exact ⟨a, cap, by rw [h]⟩
  obtain ⟨ay, capy, hy⟩ : ∃ a cap, sv3 = .slice a B.length cap := by obtain ⟨a, cap, h⟩ := hs.slice; exact ⟨a, cap, by rw [h]⟩
  subst hy
  have HX := hid hx
  have HS := hid hs
  have HL3 := hid L3
  clear hx hs L3 r2 HB1 HR1 HB2 HR2
  go_wp2_with fail
  refine (Written_any _ b _ _ _ HS.out).mono ?_
  rintro e w4 ⟨rfl, hw4⟩
  have HX4 : Hid (View w4.heap.size w4 (.slice ax P.length capx) (P)) := by rw [hw4]; exact HX.out.below (below_drewN _ _ _) (Nat.le_refl _)
  have HY4 : Hid (View w4.heap.size w4 (.slice ay B.length capy) (B)) := by rw [hw4]; exact (view_written HS.out).below (below_drewN _ _ _) (Nat.le_refl _)
  have HL4 : Hid (Below w0'.heap.size w0' w4) := by rw [hw4]; exact ((HL1.out.trans HL2.out).trans HL3.out).trans (below_drewN _ _ _)
  clear hw4 HX HS HL1 HL2 HL3
  go_wp2_with fail
  refine (zzCat_any w0'.heap.size none a2 0 0 P.length c2 [] P w4 HL4.out.size (View.nil _ _) (HV2.out.below HL4.out (Nat.le_refl _)) (by simp; omega)).mono ?_
  rintro e w5 ⟨x5, rfl, hx5, L5⟩
  rw [List.nil_append] at hx5
  obtain ⟨a5, cap5, rfl⟩ : ∃ a cap, x5 = .slice a P.length cap := by obtain ⟨a, cap, h⟩ := hx5.slice; exact ⟨a, cap, by rw [h]⟩
  have HX5 := hid hx5
  have HG5 : Hid (View w5.heap.size w5 (.slice ax P.length capx) (P)) := (HX4.out.below L5 (Nat.le_refl _)).mono L5.size
  have HY5 : Hid (View w5.heap.size w5 (.slice ay B.length capy) (B)) := (HY4.out.below L5 (Nat.le_refl _)).mono L5.size
  have HL5 : Hid (Below w0'.heap.size w0' w5) := HL4.out.trans (L5.mono HL4.out.size)
  clear hx5 L5 HX4 HY4 HL4
  go_wp2_with fail
  refine (zzEq_any w5.heap.size ax a5 P.length capx P.length cap5 (P) w5 HG5.out HX5.out).mono ?_
  rintro e w7 ⟨rfl, k, hw7⟩
  have HQ1 : Hid (View w7.heap.size w7 (.slice ay B.length capy) (B)) := by rw [hw7]; exact HY5.out.below (below_drewN _ _ _) (Nat.le_refl _)
  have HQ2 : Hid (View w7.heap.size w7 (.slice a1 B.length c1) (B)) := by rw [hw7]; exact View.below (w := w5) ((HV1.out.below HL5.out (Nat.le_refl _)).mono HL5.out.size) (below_drewN _ _ _) (Nat.le_refl _)
  have HL7 : Hid (Below w0'.heap.size w0' w7) := by rw [hw7]; exact HL5.out.trans (below_drewN _ _ _)
  clear hw7
  go_wp2_with fail
  refine (zzEq_any w7.heap.size ay a1 B.length capy B.length c1 (B) w7 HQ1.out HQ2.out).mono ?_
  rintro e w8 ⟨rfl, k', hw8⟩
  have HF : Hid (Below w0'.heap.size w0' w8) := by rw [hw8]; exact HL7.out.trans (below_drewN _ _ _)
  clear hw8
  go_wp2_with fail
  go_ret
  exact ⟨rfl, HF.out⟩

set_option maxHeartbeats 2000000 in
theorem law7_case3 (a1 a2 : Option Addr) (c1 c2 : Nat) (B P : List Nat) (w : World) (hV1 : View w.heap.size w (.slice a1 B.length c1) B) (hV2 : View w.heap.size w (.slice a2 P.length c2) P) (h1 : B.length ≤ 524288) (h2 : P.length ≤ 524288) (hF : ¬ 65536 ≤ B.length) (hT : 65536 ≤ B.length + P.length) :
    Calls Try.prog 7 #[.slice a1 B.length c1, .slice a2 P.length c2] w fun e w' => e = .returned (.bool true) ∧ Below w.heap.size w w' := by
  have z := hid (zzb24_yes a1 a2 B.length c1 P.length c2 w (by omega))
  have k1 : decide ((524288 : Int) < (B.length : Int)) = false := by simp; omega
  have k2 : decide ((524288 : Int) < (P.length : Int)) = false := by simp; omega
  have f1 : decide ((B.length : Int) < 65536) = true := by simp; omega
  have f2 : decide ((65536 : Int) ≤ (B.length : Int) + (P.length : Int)) = true := by simp; omega
  have A := zzAfterFirst_any a1 B.length c1 w
  rw [if_neg hF] at A
  have HA := hid A
  have eh : held1 B = B := by simp [held1, hF]
  have eg : got7 B P = P := by rw [got7, eh, if_neg (by omega), if_neg hF]
  have ew : out7 B P = B := by rw [out7, eh, if_neg (by omega), if_neg hF]
  have EG := hid eg
  have EW := hid ew
  have EH := hid eh
  have HV1 := hid hV1
  have HV2 := hid hV2
  clear hV1 hV2 eg ew eh A hF hT
  go_enter Try.func7, Try.ntmps7
  go_wp2_with fail
  refine z.out.mono ?_
  rintro e w0 ⟨rfl, rfl⟩
  clear z
  go_wp2_with fail
  refine HA.out.mono ?_
  rintro e w0' ⟨rfl, rfl⟩
  clear HA
  go_wp2_with fail
  refine (zzStart_any _ a1 B.length c1 B _ (Nat.le_refl _) HV1.out (by omega)).mono ?_
  rintro e w1 ⟨ib, b, v, sv, rfl, hib, B1, R1, L1⟩
  have HB1 := hid B1
  have HR1 := hid R1
  have HL1 := hid L1
  clear B1 R1 L1
  go_wp2_with fail
  refine (Buffer_any _ _ _ _ _ _ HB1.out).mono ?_
  rintro e w1' ⟨rfl, rfl⟩
  obtain ⟨v1, w2, r2, B2, R2, L2⟩ := append_rest HB1.out HR1.out (HV2.out.below HL1.out (Nat.le_refl _)) (by rw [length_cells]; have : (held1 B).length ≤ B.length := (by unfold held1; split <;> simp); omega)
  have HB2 := hid B2
  have HR2 := hid R2
  have HL2 := hid L2
  clear B2 R2 L2
  go_wp2_with (refine Lib.wpList_append_run _ rfl (.tmp 40) (.tmp 41) 22 22 rfl _ _ rfl rfl _ _ r2 ?_)
  refine (MakeRoom_second _ ib b _ v1 sv B P w2 hib HB2.out HR2.out (by omega) (by omega)).mono ?_
  rintro e w3 ⟨x, rfl, sv3, hx, hs, L3⟩
  rw [EG.out] at hx
  rw [EW.out] at hs
  obtain ⟨ax, capx, rfl⟩ : ∃ a cap, x = .slice a P.length cap := by obtain ⟨a, cap, h⟩ := hx.slice; exact ⟨a, cap, by rw [h]⟩
  obtain ⟨ay, capy, hy⟩ : ∃ a cap, sv3 = .slice a B.length cap := by obtain ⟨a, cap, h⟩ := hs.slice; exact ⟨a, cap, by rw [h]⟩
  subst hy
  have HX := hid hx
  have HS := hid hs
  have HL3 := hid L3
  clear hx hs L3 r2 HB1 HR1 HB2 HR2
  go_wp2_with fail
  refine (Written_any _ b _ _ _ HS.out).mono ?_
  rintro e w4 ⟨rfl, hw4⟩
  have HX4 : Hid (View w4.heap.size w4 (.slice ax P.length capx) (P)) := by rw [hw4]; exact HX.out.below (below_drewN _ _ _) (Nat.le_refl _)
  have HY4 : Hid (View w4.heap.size w4 (.slice ay B.length capy) (B)) := by rw [hw4]; exact (view_written HS.out).below (below_drewN _ _ _) (Nat.le_refl _)
  have HL4 : Hid (Below w0'.heap.size w0' w4) := by rw [hw4]; exact ((HL1.out.trans HL2.out).trans HL3.out).trans (below_drewN _ _ _)
  clear hw4 HX HS HL1 HL2 HL3
  go_wp2_with fail
  refine (zzCat_any w0'.heap.size a1 a2 B.length c1 P.length c2 B P w4 HL4.out.size (HV1.out.below HL4.out (Nat.le_refl _)) (HV2.out.below HL4.out (Nat.le_refl _)) (by omega)).mono ?_
  rintro e w5 ⟨x5, rfl, hx5, L5⟩
  obtain ⟨a5, cap5, rfl⟩ : ∃ a cap, x5 = .slice a (B.length + P.length) cap := by obtain ⟨a, cap, h⟩ := hx5.slice; exact ⟨a, cap, by rw [h, List.length_append]⟩
  have HX5 := hid hx5
  have HG5 : Hid (View w5.heap.size w5 (.slice ax P.length capx) (P)) := (HX4.out.below L5 (Nat.le_refl _)).mono L5.size
  have HY5 : Hid (View w5.heap.size w5 (.slice ay B.length capy) (B)) := (HY4.out.below L5 (Nat.le_refl _)).mono L5.size
  have HL5 : Hid (Below w0'.heap.size w0' w5) := HL4.out.trans (L5.mono HL4.out.size)
  clear hx5 L5 HX4 HY4 HL4
  go_wp2_with fail
  refine (zzEq_any w5.heap.size ax a2 P.length capx P.length c2 (P) w5 HG5.out ((HV2.out.below HL5.out (Nat.le_refl _)).mono HL5.out.size)).mono ?_
  rintro e w7 ⟨rfl, k, hw7⟩
  have HQ1 : Hid (View w7.heap.size w7 (.slice ay B.length capy) (B)) := by rw [hw7]; exact HY5.out.below (below_drewN _ _ _) (Nat.le_refl _)
  have HQ2 : Hid (View w7.heap.size w7 (.slice a1 B.length c1) (B)) := by rw [hw7]; exact View.below (w := w5) ((HV1.out.below HL5.out (Nat.le_refl _)).mono HL5.out.size) (below_drewN _ _ _) (Nat.le_refl _)
  have HL7 : Hid (Below w0'.heap.size w0' w7) := by rw [hw7]; exact HL5.out.trans (below_drewN _ _ _)
  clear hw7
  go_wp2_with fail
  refine (zzEq_any w7.heap.size ay a1 B.length capy B.length c1 (B) w7 HQ1.out HQ2.out).mono ?_
  rintro e w8 ⟨rfl, k', hw8⟩
  have HF : Hid (Below w0'.heap.size w0' w8) := by rw [hw8]; exact HL7.out.trans (below_drewN _ _ _)
  clear hw8
  go_wp2_with fail
  go_ret
  exact ⟨rfl, HF.out⟩

set_option maxHeartbeats 2000000 in
theorem law7_case4 (a1 a2 : Option Addr) (c1 c2 : Nat) (B P : List Nat) (w : World) (hV1 : View w.heap.size w (.slice a1 B.length c1) B) (hV2 : View w.heap.size w (.slice a2 P.length c2) P) (h1 : B.length ≤ 524288) (h2 : P.length ≤ 524288) (hF : ¬ 65536 ≤ B.length) (hT : ¬ 65536 ≤ B.length + P.length) :
    Calls Try.prog 7 #[.slice a1 B.length c1, .slice a2 P.length c2] w fun e w' => e = .returned (.bool true) ∧ Below w.heap.size w w' := by
  have z := hid (zzb24_yes a1 a2 B.length c1 P.length c2 w (by omega))
  have k1 : decide ((524288 : Int) < (B.length : Int)) = false := by simp; omega
  have k2 : decide ((524288 : Int) < (P.length : Int)) = false := by simp; omega
  have f1 : decide ((B.length : Int) < 65536) = true := by simp; omega
  have f2 : decide ((65536 : Int) ≤ (B.length : Int) + (P.length : Int)) = false := by simp; omega
  have A := zzAfterFirst_any a1 B.length c1 w
  rw [if_neg hF] at A
  have HA := hid A
  have eh : held1 B = B := by simp [held1, hF]
  have eo : out1 B = [] := by simp [out1, hF]
  have eg : got7 B P = B ++ P := by rw [got7, eh, if_pos (by omega)]
  have ew : out7 B P = [] := by rw [out7, eh, if_pos (by omega), eo]
  have EG := hid eg
  have EW := hid ew
  have EH := hid eh
  have HV1 := hid hV1
  have HV2 := hid hV2
  clear hV1 hV2 eg ew eh A hF hT eo
  go_enter Try.func7, Try.ntmps7
  go_wp2_with fail
  refine z.out.mono ?_
  rintro e w0 ⟨rfl, rfl⟩
  clear z
  go_wp2_with fail
  refine HA.out.mono ?_
  rintro e w0' ⟨rfl, rfl⟩
  clear HA
  go_wp2_with fail
  refine (zzStart_any _ a1 B.length c1 B _ (Nat.le_refl _) HV1.out (by omega)).mono ?_
  rintro e w1 ⟨ib, b, v, sv, rfl, hib, B1, R1, L1⟩
  have HB1 := hid B1
  have HR1 := hid R1
  have HL1 := hid L1
  clear B1 R1 L1
  go_wp2_with fail
  refine (Buffer_any _ _ _ _ _ _ HB1.out).mono ?_
  rintro e w1' ⟨rfl, rfl⟩
  obtain ⟨v1, w2, r2, B2, R2, L2⟩ := append_rest HB1.out HR1.out (HV2.out.below HL1.out (Nat.le_refl _)) (by rw [length_cells]; have : (held1 B).length ≤ B.length := (by unfold held1; split <;> simp); omega)
  have HB2 := hid B2
  have HR2 := hid R2
  have HL2 := hid L2
  clear B2 R2 L2
  go_wp2_with (refine Lib.wpList_append_run _ rfl (.tmp 40) (.tmp 41) 22 22 rfl _ _ rfl rfl _ _ r2 ?_)
  refine (MakeRoom_second _ ib b _ v1 sv B P w2 hib HB2.out HR2.out (by omega) (by omega)).mono ?_
  rintro e w3 ⟨x, rfl, sv3, hx, hs, L3⟩
  rw [EG.out] at hx
  rw [EW.out] at hs
  obtain ⟨ax, capx, rfl⟩ : ∃ a cap, x = .slice a (B.length + P.length) cap := by obtain ⟨a, cap, h⟩ := hx.slice; exact ⟨a, cap, by rw [h, List.length_append]⟩
  obtain ⟨ay, capy, hy⟩ : ∃ a cap, sv3 = .slice a 0 cap := by obtain ⟨a, cap, h⟩ := hs.slice; exact ⟨a, cap, by rw [h]; rfl⟩
  subst hy
  have HX := hid hx
  have HS := hid hs
  have HL3 := hid L3
  clear hx hs L3 r2 HB1 HR1 HB2 HR2
  go_wp2_with fail
  refine (Written_any _ b _ _ _ HS.out).mono ?_
  rintro e w4 ⟨rfl, hw4⟩
  have HX4 : Hid (View w4.heap.size w4 (.slice ax (B.length + P.length) capx) (B ++ P)) := by rw [hw4]; exact HX.out.below (below_drewN _ _ _) (Nat.le_refl _)
  have HY4 : Hid (View w4.heap.size w4 (.slice ay 0 capy) ([])) := by rw [hw4]; exact (view_written HS.out).below (below_drewN _ _ _) (Nat.le_refl _)
  have HL4 : Hid (Below w0'.heap.size w0' w4) := by rw [hw4]; exact ((HL1.out.trans HL2.out).trans HL3.out).trans (below_drewN _ _ _)
  clear hw4 HX HS HL1 HL2 HL3
  go_wp2_with fail
  refine (zzCat_any w0'.heap.size a1 a2 B.length c1 P.length c2 B P w4 HL4.out.size (HV1.out.below HL4.out (Nat.le_refl _)) (HV2.out.below HL4.out (Nat.le_refl _)) (by omega)).mono ?_
  rintro e w5 ⟨x5, rfl, hx5, L5⟩
  obtain ⟨a5, cap5, rfl⟩ : ∃ a cap, x5 = .slice a (B.length + P.length) cap := by obtain ⟨a, cap, h⟩ := hx5.slice; exact ⟨a, cap, by rw [h, List.length_append]⟩
  have HX5 := hid hx5
  have HG5 : Hid (View w5.heap.size w5 (.slice ax (B.length + P.length) capx) (B ++ P)) := (HX4.out.below L5 (Nat.le_refl _)).mono L5.size
  have HY5 : Hid (View w5.heap.size w5 (.slice ay 0 capy) ([])) := (HY4.out.below L5 (Nat.le_refl _)).mono L5.size
  have HL5 : Hid (Below w0'.heap.size w0' w5) := HL4.out.trans (L5.mono HL4.out.size)
  clear hx5 L5 HX4 HY4 HL4
  go_wp2_with fail
  refine (zzEq_any w5.heap.size ax a5 (B.length + P.length) capx (B.length + P.length) cap5 (B ++ P) w5 HG5.out HX5.out).mono ?_
  rintro e w7 ⟨rfl, k, hw7⟩
  have HQ1 : Hid (View w7.heap.size w7 (.slice ay 0 capy) ([])) := by rw [hw7]; exact HY5.out.below (below_drewN _ _ _) (Nat.le_refl _)
  have HQ2 : Hid (View w7.heap.size w7 (.slice none 0 0) ([])) := by rw [hw7]; exact View.below (w := w5) (View.nil _ _) (below_drewN _ _ _) (Nat.le_refl _)
  have HL7 : Hid (Below w0'.heap.size w0' w7) := by rw [hw7]; exact HL5.out.trans (below_drewN _ _ _)
  clear hw7
  go_wp2_with fail
  refine (zzEq_any w7.heap.size ay none 0 capy 0 0 ([]) w7 HQ1.out HQ2.out).mono ?_
  rintro e w8 ⟨rfl, k', hw8⟩
  have HF : Hid (Below w0'.heap.size w0' w8) := by rw [hw8]; exact HL7.out.trans (below_drewN _ _ _)
  clear hw8
  go_wp2_with fail
  go_ret
  exact ⟨rfl, HF.out⟩

end Go.Proofs.Qxb6612279a
