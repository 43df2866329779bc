/- The walk of the law FnBufferHoldsWhatIsNotWrittenOut (seat b6612279a). -/
import Derived.Test.Qxb6612279aSecond
namespace Go.Proofs.Qxb6612279a
open Go.RowKit

set_option maxHeartbeats 400000 in
theorem law5_far (a1 a2 : Option Addr) (l1 c1 l2 c2 : Nat) (t : Bool) (w : World) (m1 : l1 ≤ maxLen) (m2 : l2 ≤ maxLen) (h : ¬ l1 + l2 ≤ 1048576) :
    Calls Try.prog 5 #[.slice a1 l1 c1, .slice a2 l2 c2, .bool t] w fun e w' => e = .returned (.bool true) ∧ Below w.heap.size w w' := by
  have z := hid (zzb14_no a1 a2 l1 c1 l2 c2 t w m1 m2 h)
  clear m1 m2 h
  go_enter Try.func5, Try.ntmps5
  go_wp2_with fail
  refine z.out.mono ?_
  rintro e w' ⟨rfl, rfl⟩
  go_wp2_with fail
  go_ret
  exact ⟨rfl, Below.refl _ _⟩

set_option maxHeartbeats 400000 in
theorem law5_mid (a1 a2 : Option Addr) (l1 c1 l2 c2 : Nat) (t : Bool) (w : World) (h : l1 + l2 ≤ 1048576) (hh : ¬ (l1 ≤ 524288 ∧ l2 ≤ 524288)) :
    Calls Try.prog 5 #[.slice a1 l1 c1, .slice a2 l2 c2, .bool t] w fun e w' => e = .returned (.bool true) ∧ Below w.heap.size w w' := by
  have z := hid (zzb14_yes a1 a2 l1 c1 l2 c2 t w h)
  by_cases k : l1 ≤ 524288
  · have k1 : decide ((524288 : Int) < (l1 : Int)) = false := by simp; omega
    have k2 : decide ((524288 : Int) < (l2 : Int)) = true := by simp; omega
    clear h hh k
    go_enter Try.func5, Try.ntmps5
    go_wp2_with fail
    refine z.out.mono ?_
    rintro e w' ⟨rfl, rfl⟩
    go_wp2_with fail
    go_ret
    exact ⟨rfl, Below.refl _ _⟩
  · have k1 : decide ((524288 : Int) < (l1 : Int)) = true := by simp; omega
    clear h hh k
    go_enter Try.func5, Try.ntmps5
    go_wp2_with fail
    refine z.out.mono ?_
    rintro e w' ⟨rfl, rfl⟩
    go_wp2_with fail
    go_ret
    exact ⟨rfl, Below.refl _ _⟩

set_option maxHeartbeats 2000000 in
theorem law5_near (a1 a2 : Option Addr) (c1 c2 : Nat) (B P : List Nat) (t : Bool) (w : World) (hV1 : View w.heap.size w (.slice a1 B.length c1) B) (hV2 : View w.heap.size w (.slice a2 P.length c2) P) (h1 : B.length ≤ 524288) (h2 : P.length ≤ 524288) :
    Calls Try.prog 5 #[.slice a1 B.length c1, .slice a2 P.length c2, .bool t] w fun e w' => e = .returned (.bool true) ∧ Below w.heap.size w w' := by
  have z := hid (zzb14_yes a1 a2 B.length c1 P.length c2 t w (by omega))
  have k1 : decide ((524288 : Int) < (B.length : Int)) = false := by simp; omega
  have k2 : decide ((524288 : Int) < (P.length : Int)) = false := by simp; omega
  have eq := eql34nil
  have HV1 := hid hV1
  have HV2 := hid hV2
  have H1 := hid h1
  have H2 := hid h2
  clear hV1 hV2
  go_enter Try.func5, Try.ntmps5
  go_wp2_with fail
  refine z.out.mono ?_
  rintro e w0 ⟨rfl, rfl⟩
  clear z
  go_wp2_with fail
  refine (zzStart_any _ a1 B.length c1 B _ (Nat.le_refl _) HV1.out (by have := H1.out; omega)).mono ?_
  rintro e w1 ⟨ib, b, v, sv, rfl, hib, B1, R1, L1⟩
  have HB1 := hid B1
  have HR1 := hid R1
  have HL1 := hid L1
  clear B1 R1 L1
  go_wp2_with fail
  refine (Buffer_any _ _ _ _ _ _ HB1.out).mono ?_
  rintro e w1' ⟨rfl, rfl⟩
  obtain ⟨v1, w2, r2, B2, R2, L2⟩ := append_rest HB1.out HR1.out (HV2.out.below HL1.out (Nat.le_refl _)) (by have := H1.out; have := H2.out; rw [length_cells]; have : (held1 B).length ≤ B.length := (by unfold held1; split <;> simp); omega)
  have HB2 := hid B2
  have HR2 := hid R2
  have HL2 := hid L2
  clear B2 R2 L2
  go_wp2_with (refine Lib.wpList_append_run _ rfl (.tmp 38) (.tmp 39) 22 22 rfl _ _ rfl rfl _ _ r2 ?_)
  refine (Done_second _ ib b _ v1 sv B P t w2 hib HB2.out HR2.out (by have := H1.out; omega) (by have := H2.out; omega)).mono ?_
  rintro e w3 ⟨rfl, v3, sv3, H, W, wh, B3, hR3, hWH, hlen, L3⟩
  obtain ⟨R3, cap3, hv3⟩ := hR3.slice
  obtain ⟨ao, caps, hs3⟩ := hR3.sink.slice
  subst hv3
  subst hs3
  have HB3 := hid B3
  have HR3 := hid hR3
  have HL3 := hid L3
  have HWH := hid hWH
  clear B3 hR3 L3 hWH r2
  have hw : H.length = want5 B P t := hlen
  clear hlen
  unfold want5 held1 at hw
  by_cases hF : 65536 ≤ B.length
  · have f1 : decide ((65536 : Int) ≤ (B.length : Int)) = true := by simp; omega
    rw [if_pos hF, List.length_nil, Nat.zero_add] at hw
    by_cases hT : 65536 ≤ P.length
    · have f2 : decide ((65536 : Int) ≤ (P.length : Int)) = true := by simp; omega
      rw [if_neg (by omega), if_pos (.inr hF)] at hw
      have f3 : ((H.length : Int) == 0) = true := beq_iff_eq.2 (by omega)
      clear hw hF hT
      cases t with
      | true =>
        go_wp2_with fail
        refine (Buffer_any _ _ _ _ _ _ HB3.out).mono ?_
        rintro e w3' ⟨rfl, rfl⟩
        go_wp2_with fail
        refine (Written_any _ b _ W _ HR3.out.sink).mono ?_
        rintro e w4 ⟨rfl, hw4⟩
        have hV4 : View w4.heap.size w4 (.slice ao W.length caps) W := by rw [hw4]; exact (view_written HR3.out.sink).below (below_drewN _ _ _) (Nat.le_refl _)
        have hH4 : View w4.heap.size w4 (.slice (some ⟨R3, 0, none⟩) H.length cap3) H := by rw [hw4]; exact (view_held HR3.out).below (below_drewN _ _ _) (Nat.le_refl _)
        have hL4 : Below w0.heap.size w0 w4 := by rw [hw4]; exact ((HL1.out.trans HL2.out).trans HL3.out).trans (below_drewN _ _ _)
        have HV4 := hid hV4
        have HH4 := hid hH4
        have HL4 := hid hL4
        clear hV4 hH4 hL4 hw4 HB3 HR3 HL1 HL2 HL3 HB1 HR1 HB2 HR2
        go_wp2_with fail
        refine (zzCat_any w4.heap.size ao (some ⟨R3, 0, none⟩) W.length caps H.length cap3 W H w4 (Nat.le_refl _) HV4.out HH4.out (by have := congrArg List.length HWH.out; rw [List.length_append, List.length_append] at this; have := H1.out; have := H2.out; omega)).mono ?_
        rintro e w5 ⟨x5, rfl, hx5, L5⟩
        rw [HWH.out] at hx5
        obtain ⟨a5, cap5, rfl⟩ : ∃ a cap, x5 = .slice a (B.length + P.length) cap := by obtain ⟨a, cap, h, _⟩ := hx5; exact ⟨a, cap, by rw [h, List.length_append]⟩
        have HX5 := hid hx5
        have HL5 := hid L5
        have hL05 : Hid (Below w0.heap.size w0 w5) := HL4.out.trans (L5.mono HL4.out.size)
        clear hx5 L5
        go_wp2_with fail
        refine (zzCat_any w0.heap.size a1 a2 B.length c1 P.length c2 B P w5 hL05.out.size (HV1.out.below hL05.out (Nat.le_refl _)) (HV2.out.below hL05.out (Nat.le_refl _)) (by have := H1.out; have := H2.out; omega)).mono ?_
        rintro e w6 ⟨x6, rfl, hx6, L6⟩
        obtain ⟨a6, cap6, rfl⟩ : ∃ a cap, x6 = .slice a (B.length + P.length) cap := by obtain ⟨a, cap, h, _⟩ := hx6; exact ⟨a, cap, by rw [h, List.length_append]⟩
        have HX6 := hid hx6
        have HL6 := hid L6
        clear hx6 L6
        go_wp2_with fail
        refine (zzEq_any w6.heap.size a5 a6 (B.length + P.length) cap5 (B.length + P.length) cap6 (B ++ P) w6 ((HX5.out.below HL6.out (Nat.le_refl _)).mono HL6.out.size) HX6.out).mono ?_
        rintro e w7 ⟨rfl, k, hw7⟩
        have HF : Hid (Below w0.heap.size w0 w7) := by rw [hw7]; exact (hL05.out.trans (HL6.out.mono hL05.out.size)).trans (below_drewN _ _ _)
        clear hw7
        go_wp2_with fail
        go_ret
        exact ⟨rfl, HF.out⟩
      | false =>
        go_wp2_with fail
        refine (Buffer_any _ _ _ _ _ _ HB3.out).mono ?_
        rintro e w3' ⟨rfl, rfl⟩
        go_wp2_with fail
        refine (Written_any _ b _ W _ HR3.out.sink).mono ?_
        rintro e w4 ⟨rfl, hw4⟩
        have hV4 : View w4.heap.size w4 (.slice ao W.length caps) W := by rw [hw4]; exact (view_written HR3.out.sink).below (below_drewN _ _ _) (Nat.le_refl _)
        have hH4 : View w4.heap.size w4 (.slice (some ⟨R3, 0, none⟩) H.length cap3) H := by rw [hw4]; exact (view_held HR3.out).below (below_drewN _ _ _) (Nat.le_refl _)
        have hL4 : Below w0.heap.size w0 w4 := by rw [hw4]; exact ((HL1.out.trans HL2.out).trans HL3.out).trans (below_drewN _ _ _)
        have HV4 := hid hV4
        have HH4 := hid hH4
        have HL4 := hid hL4
        clear hV4 hH4 hL4 hw4 HB3 HR3 HL1 HL2 HL3 HB1 HR1 HB2 HR2
        go_wp2_with fail
        refine (zzCat_any w4.heap.size ao (some ⟨R3, 0, none⟩) W.length caps H.length cap3 W H w4 (Nat.le_refl _) HV4.out HH4.out (by have := congrArg List.length HWH.out; rw [List.length_append, List.length_append] at this; have := H1.out; have := H2.out; omega)).mono ?_
        rintro e w5 ⟨x5, rfl, hx5, L5⟩
        rw [HWH.out] at hx5
        obtain ⟨a5, cap5, rfl⟩ : ∃ a cap, x5 = .slice a (B.length + P.length) cap := by obtain ⟨a, cap, h, _⟩ := hx5; exact ⟨a, cap, by rw [h, List.length_append]⟩
        have HX5 := hid hx5
        have HL5 := hid L5
        have hL05 : Hid (Below w0.heap.size w0 w5) := HL4.out.trans (L5.mono HL4.out.size)
        clear hx5 L5
        go_wp2_with fail
        refine (zzCat_any w0.heap.size a1 a2 B.length c1 P.length c2 B P w5 hL05.out.size (HV1.out.below hL05.out (Nat.le_refl _)) (HV2.out.below hL05.out (Nat.le_refl _)) (by have := H1.out; have := H2.out; omega)).mono ?_
        rintro e w6 ⟨x6, rfl, hx6, L6⟩
        obtain ⟨a6, cap6, rfl⟩ : ∃ a cap, x6 = .slice a (B.length + P.length) cap := by obtain ⟨a, cap, h, _⟩ := hx6; exact ⟨a, cap, by rw [h, List.length_append]⟩
        have HX6 := hid hx6
        have HL6 := hid L6
        clear hx6 L6
        go_wp2_with fail
        refine (zzEq_any w6.heap.size a5 a6 (B.length + P.length) cap5 (B.length + P.length) cap6 (B ++ P) w6 ((HX5.out.below HL6.out (Nat.le_refl _)).mono HL6.out.size) HX6.out).mono ?_
        rintro e w7 ⟨rfl, k, hw7⟩
        have HF : Hid (Below w0.heap.size w0 w7) := by rw [hw7]; exact (hL05.out.trans (HL6.out.mono hL05.out.size)).trans (below_drewN _ _ _)
        clear hw7
        go_wp2_with fail
        go_ret
        exact ⟨rfl, HF.out⟩
    · have f2 : decide ((65536 : Int) ≤ (P.length : Int)) = false := by simp; omega
      rw [if_pos (by omega)] at hw
      have f3 : ((H.length : Int) == (P.length : Int)) = true := beq_iff_eq.2 (by omega)
      clear hw hF hT
      go_wp2_with fail
      refine (Buffer_any _ _ _ _ _ _ HB3.out).mono ?_
      rintro e w3' ⟨rfl, rfl⟩
      go_wp2_with fail
      refine (Written_any _ b _ W _ HR3.out.sink).mono ?_
      rintro e w4 ⟨rfl, hw4⟩
      have hV4 : View w4.heap.size w4 (.slice ao W.length caps) W := by rw [hw4]; exact (view_written HR3.out.sink).below (below_drewN _ _ _) (Nat.le_refl _)
      have hH4 : View w4.heap.size w4 (.slice (some ⟨R3, 0, none⟩) H.length cap3) H := by rw [hw4]; exact (view_held HR3.out).below (below_drewN _ _ _) (Nat.le_refl _)
      have hL4 : Below w0.heap.size w0 w4 := by rw [hw4]; exact ((HL1.out.trans HL2.out).trans HL3.out).trans (below_drewN _ _ _)
      have HV4 := hid hV4
      have HH4 := hid hH4
      have HL4 := hid hL4
      clear hV4 hH4 hL4 hw4 HB3 HR3 HL1 HL2 HL3 HB1 HR1 HB2 HR2
      go_wp2_with fail
      refine (zzCat_any w4.heap.size ao (some ⟨R3, 0, none⟩) W.length caps H.length cap3 W H w4 (Nat.le_refl _) HV4.out HH4.out (by have := congrArg List.length HWH.out; rw [List.length_append, List.length_append] at this; have := H1.out; have := H2.out; omega)).mono ?_
      rintro e w5 ⟨x5, rfl, hx5, L5⟩
      rw [HWH.out] at hx5
      obtain ⟨a5, cap5, rfl⟩ : ∃ a cap, x5 = .slice a (B.length + P.length) cap := by obtain ⟨a, cap, h, _⟩ := hx5; exact ⟨a, cap, by rw [h, List.length_append]⟩
      have HX5 := hid hx5
      have HL5 := hid L5
      have hL05 : Hid (Below w0.heap.size w0 w5) := HL4.out.trans (L5.mono HL4.out.size)
      clear hx5 L5
      go_wp2_with fail
      refine (zzCat_any w0.heap.size a1 a2 B.length c1 P.length c2 B P w5 hL05.out.size (HV1.out.below hL05.out (Nat.le_refl _)) (HV2.out.below hL05.out (Nat.le_refl _)) (by have := H1.out; have := H2.out; omega)).mono ?_
      rintro e w6 ⟨x6, rfl, hx6, L6⟩
      obtain ⟨a6, cap6, rfl⟩ : ∃ a cap, x6 = .slice a (B.length + P.length) cap := by obtain ⟨a, cap, h, _⟩ := hx6; exact ⟨a, cap, by rw [h, List.length_append]⟩
      have HX6 := hid hx6
      have HL6 := hid L6
      clear hx6 L6
      go_wp2_with fail
      refine (zzEq_any w6.heap.size a5 a6 (B.length + P.length) cap5 (B.length + P.length) cap6 (B ++ P) w6 ((HX5.out.below HL6.out (Nat.le_refl _)).mono HL6.out.size) HX6.out).mono ?_
      rintro e w7 ⟨rfl, k, hw7⟩
      have HF : Hid (Below w0.heap.size w0 w7) := by rw [hw7]; exact (hL05.out.trans (HL6.out.mono hL05.out.size)).trans (below_drewN _ _ _)
      clear hw7
      go_wp2_with fail
      go_ret
      exact ⟨rfl, HF.out⟩
  · have f1 : decide ((65536 : Int) ≤ (B.length : Int)) = false := by simp; omega
    rw [if_neg hF] at hw
    by_cases hT : 65536 ≤ B.length + P.length
    · have f2 : decide ((65536 : Int) ≤ (B.length : Int) + (P.length : Int)) = true := by simp; omega
      rw [if_neg (by omega)] at hw
      cases t with
      | true =>
        rw [if_pos (.inl rfl)] at hw
        have f3 : ((H.length : Int) == 0) = true := beq_iff_eq.2 (by omega)
        clear hw hF hT
        go_wp2_with fail
        refine (Buffer_any _ _ _ _ _ _ HB3.out).mono ?_
        rintro e w3' ⟨rfl, rfl⟩
        go_wp2_with fail
        refine (Written_any _ b _ W _ HR3.out.sink).mono ?_
        rintro e w4 ⟨rfl, hw4⟩
        have hV4 : View w4.heap.size w4 (.slice ao W.length caps) W := by rw [hw4]; exact (view_written HR3.out.sink).below (below_drewN _ _ _) (Nat.le_refl _)
        have hH4 : View w4.heap.size w4 (.slice (some ⟨R3, 0, none⟩) H.length cap3) H := by rw [hw4]; exact (view_held HR3.out).below (below_drewN _ _ _) (Nat.le_refl _)
        have hL4 : Below w0.heap.size w0 w4 := by rw [hw4]; exact ((HL1.out.trans HL2.out).trans HL3.out).trans (below_drewN _ _ _)
        have HV4 := hid hV4
        have HH4 := hid hH4
        have HL4 := hid hL4
        clear hV4 hH4 hL4 hw4 HB3 HR3 HL1 HL2 HL3 HB1 HR1 HB2 HR2
        go_wp2_with fail
        refine (zzCat_any w4.heap.size ao (some ⟨R3, 0, none⟩) W.length caps H.length cap3 W H w4 (Nat.le_refl _) HV4.out HH4.out (by have := congrArg List.length HWH.out; rw [List.length_append, List.length_append] at this; have := H1.out; have := H2.out; omega)).mono ?_
        rintro e w5 ⟨x5, rfl, hx5, L5⟩
        rw [HWH.out] at hx5
        obtain ⟨a5, cap5, rfl⟩ : ∃ a cap, x5 = .slice a (B.length + P.length) cap := by obtain ⟨a, cap, h, _⟩ := hx5; exact ⟨a, cap, by rw [h, List.length_append]⟩
        have HX5 := hid hx5
        have HL5 := hid L5
        have hL05 : Hid (Below w0.heap.size w0 w5) := HL4.out.trans (L5.mono HL4.out.size)
        clear hx5 L5
        go_wp2_with fail
        refine (zzCat_any w0.heap.size a1 a2 B.length c1 P.length c2 B P w5 hL05.out.size (HV1.out.below hL05.out (Nat.le_refl _)) (HV2.out.below hL05.out (Nat.le_refl _)) (by have := H1.out; have := H2.out; omega)).mono ?_
        rintro e w6 ⟨x6, rfl, hx6, L6⟩
        obtain ⟨a6, cap6, rfl⟩ : ∃ a cap, x6 = .slice a (B.length + P.length) cap := by obtain ⟨a, cap, h, _⟩ := hx6; exact ⟨a, cap, by rw [h, List.length_append]⟩
        have HX6 := hid hx6
        have HL6 := hid L6
        clear hx6 L6
        go_wp2_with fail
        refine (zzEq_any w6.heap.size a5 a6 (B.length + P.length) cap5 (B.length + P.length) cap6 (B ++ P) w6 ((HX5.out.below HL6.out (Nat.le_refl _)).mono HL6.out.size) HX6.out).mono ?_
        rintro e w7 ⟨rfl, k, hw7⟩
        have HF : Hid (Below w0.heap.size w0 w7) := by rw [hw7]; exact (hL05.out.trans (HL6.out.mono hL05.out.size)).trans (below_drewN _ _ _)
        clear hw7
        go_wp2_with fail
        go_ret
        exact ⟨rfl, HF.out⟩
      | false =>
        rw [if_neg (by simp; omega)] at hw
        have f3 : ((H.length : Int) == (P.length : Int)) = true := beq_iff_eq.2 (by omega)
        clear hw hF hT
        go_wp2_with fail
        refine (Buffer_any _ _ _ _ _ _ HB3.out).mono ?_
        rintro e w3' ⟨rfl, rfl⟩
        go_wp2_with fail
        refine (Written_any _ b _ W _ HR3.out.sink).mono ?_
        rintro e w4 ⟨rfl, hw4⟩
        have hV4 : View w4.heap.size w4 (.slice ao W.length caps) W := by rw [hw4]; exact (view_written HR3.out.sink).below (below_drewN _ _ _) (Nat.le_refl _)
        have hH4 : View w4.heap.size w4 (.slice (some ⟨R3, 0, none⟩) H.length cap3) H := by rw [hw4]; exact (view_held HR3.out).below (below_drewN _ _ _) (Nat.le_refl _)
        have hL4 : Below w0.heap.size w0 w4 := by rw [hw4]; exact ((HL1.out.trans HL2.out).trans HL3.out).trans (below_drewN _ _ _)
        have HV4 := hid hV4
        have HH4 := hid hH4
        have HL4 := hid hL4
        clear hV4 hH4 hL4 hw4 HB3 HR3 HL1 HL2 HL3 HB1 HR1 HB2 HR2
        go_wp2_with fail
        refine (zzCat_any w4.heap.size ao (some ⟨R3, 0, none⟩) W.length caps H.length cap3 W H w4 (Nat.le_refl _) HV4.out HH4.out (by have := congrArg List.length HWH.out; rw [List.length_append, List.length_append] at this; have := H1.out; have := H2.out; omega)).mono ?_
        rintro e w5 ⟨x5, rfl, hx5, L5⟩
        rw [HWH.out] at hx5
        obtain ⟨a5, cap5, rfl⟩ : ∃ a cap, x5 = .slice a (B.length + P.length) cap := by obtain ⟨a, cap, h, _⟩ := hx5; exact ⟨a, cap, by rw [h, List.length_append]⟩
        have HX5 := hid hx5
        have HL5 := hid L5
        have hL05 : Hid (Below w0.heap.size w0 w5) := HL4.out.trans (L5.mono HL4.out.size)
        clear hx5 L5
        go_wp2_with fail
        refine (zzCat_any w0.heap.size a1 a2 B.length c1 P.length c2 B P w5 hL05.out.size (HV1.out.below hL05.out (Nat.le_refl _)) (HV2.out.below hL05.out (Nat.le_refl _)) (by have := H1.out; have := H2.out; omega)).mono ?_
        rintro e w6 ⟨x6, rfl, hx6, L6⟩
        obtain ⟨a6, cap6, rfl⟩ : ∃ a cap, x6 = .slice a (B.length + P.length) cap := by obtain ⟨a, cap, h, _⟩ := hx6; exact ⟨a, cap, by rw [h, List.length_append]⟩
        have HX6 := hid hx6
        have HL6 := hid L6
        clear hx6 L6
        go_wp2_with fail
        refine (zzEq_any w6.heap.size a5 a6 (B.length + P.length) cap5 (B.length + P.length) cap6 (B ++ P) w6 ((HX5.out.below HL6.out (Nat.le_refl _)).mono HL6.out.size) HX6.out).mono ?_
        rintro e w7 ⟨rfl, k, hw7⟩
        have HF : Hid (Below w0.heap.size w0 w7) := by rw [hw7]; exact (hL05.out.trans (HL6.out.mono hL05.out.size)).trans (below_drewN _ _ _)
        clear hw7
        go_wp2_with fail
        go_ret
        exact ⟨rfl, HF.out⟩
    · have f2 : decide ((65536 : Int) ≤ (B.length : Int) + (P.length : Int)) = false := by simp; omega
      rw [if_pos (by omega)] at hw
      have f3 : ((H.length : Int) == (B.length : Int) + (P.length : Int)) = true := beq_iff_eq.2 (by omega)
      clear hw hF hT
      go_wp2_with fail
      refine (Buffer_any _ _ _ _ _ _ HB3.out).mono ?_
      rintro e w3' ⟨rfl, rfl⟩
      go_wp2_with fail
      refine (Written_any _ b _ W _ HR3.out.sink).mono ?_
      rintro e w4 ⟨rfl, hw4⟩
      have hV4 : View w4.heap.size w4 (.slice ao W.length caps) W := by rw [hw4]; exact (view_written HR3.out.sink).below (below_drewN _ _ _) (Nat.le_refl _)
      have hH4 : View w4.heap.size w4 (.slice (some ⟨R3, 0, none⟩) H.length cap3) H := by rw [hw4]; exact (view_held HR3.out).below (below_drewN _ _ _) (Nat.le_refl _)
      have hL4 : Below w0.heap.size w0 w4 := by rw [hw4]; exact ((HL1.out.trans HL2.out).trans HL3.out).trans (below_drewN _ _ _)
      have HV4 := hid hV4
      have HH4 := hid hH4
      have HL4 := hid hL4
      clear hV4 hH4 hL4 hw4 HB3 HR3 HL1 HL2 HL3 HB1 HR1 HB2 HR2
      go_wp2_with fail
      refine (zzCat_any w4.heap.size ao (some ⟨R3, 0, none⟩) W.length caps H.length cap3 W H w4 (Nat.le_refl _) HV4.out HH4.out (by have := congrArg List.length HWH.out; rw [List.length_append, List.length_append] at this; have := H1.out; have := H2.out; omega)).mono ?_
      rintro e w5 ⟨x5, rfl, hx5, L5⟩
      rw [HWH.out] at hx5
      obtain ⟨a5, cap5, rfl⟩ : ∃ a cap, x5 = .slice a (B.length + P.length) cap := by obtain ⟨a, cap, h, _⟩ := hx5; exact ⟨a, cap, by rw [h, List.length_append]⟩
      have HX5 := hid hx5
      have HL5 := hid L5
      have hL05 : Hid (Below w0.heap.size w0 w5) := HL4.out.trans (L5.mono HL4.out.size)
      clear hx5 L5
      go_wp2_with fail
      refine (zzCat_any w0.heap.size a1 a2 B.length c1 P.length c2 B P w5 hL05.out.size (HV1.out.below hL05.out (Nat.le_refl _)) (HV2.out.below hL05.out (Nat.le_refl _)) (by have := H1.out; have := H2.out; omega)).mono ?_
      rintro e w6 ⟨x6, rfl, hx6, L6⟩
      obtain ⟨a6, cap6, rfl⟩ : ∃ a cap, x6 = .slice a (B.length + P.length) cap := by obtain ⟨a, cap, h, _⟩ := hx6; exact ⟨a, cap, by rw [h, List.length_append]⟩
      have HX6 := hid hx6
      have HL6 := hid L6
      clear hx6 L6
      go_wp2_with fail
      refine (zzEq_any w6.heap.size a5 a6 (B.length + P.length) cap5 (B.length + P.length) cap6 (B ++ P) w6 ((HX5.out.below HL6.out (Nat.le_refl _)).mono HL6.out.size) HX6.out).mono ?_
      rintro e w7 ⟨rfl, k, hw7⟩
      have HF : Hid (Below w0.heap.size w0 w7) := by rw [hw7]; exact (hL05.out.trans (HL6.out.mono hL05.out.size)).trans (below_drewN _ _ _)
      clear hw7
      go_wp2_with fail
      go_ret
      exact ⟨rfl, HF.out⟩

end Go.Proofs.Qxb6612279a
