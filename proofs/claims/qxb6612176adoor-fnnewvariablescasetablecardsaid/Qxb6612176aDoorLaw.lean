/- The walk of the law FnNewVariablesCaseTable (seat b6612176aD). -/
import Derived.Test.Qxb6612176aDoorNew
import Derived.Lib.SliceRun
namespace Go.Proofs.Qxb6612176aDoor
open Go.RowKit

set_option maxHeartbeats 400000 in
theorem zzb4_yes (nm vr : ByteArray) (l c : Int) (w : World) (h : nm.size + vr.size ≤ 1048576) :
    Calls Tryd.prog 4 #[.string nm, .int .i64 l, .int .i64 c, .string vr] w fun e w' => e = .returned (.bool true) ∧ w' = w := by
  have h1 : decide ((1048576 : Int) < (nm.size : Int)) = false := by simp; omega
  have h2 : decide ((1048576 : Int) < (vr.size : Int)) = false := by simp; omega
  have h3 : decide ((1048576 : Int) < (nm.size : Int) + (vr.size : Int)) = false := by simp; omega
  go_enter Tryd.func4, Tryd.ntmps4
  go_wp2
  go_ret
  exact ⟨rfl, rfl⟩

set_option maxHeartbeats 400000 in
theorem zzb4_no (nm vr : ByteArray) (l c : Int) (w : World) (m1 : nm.size ≤ maxLen) (m2 : vr.size ≤ maxLen) (h : ¬ nm.size + vr.size ≤ 1048576) :
    Calls Tryd.prog 4 #[.string nm, .int .i64 l, .int .i64 c, .string vr] w fun e w' => e = .returned (.bool false) ∧ w' = w := by
  unfold maxLen at m1 m2
  by_cases k1 : nm.size ≤ 1048576
  · have h1 : decide ((1048576 : Int) < (nm.size : Int)) = false := by simp; omega
    by_cases k2 : vr.size ≤ 1048576
    · have h2 : decide ((1048576 : Int) < (vr.size : Int)) = false := by simp; omega
      have h3 : decide ((1048576 : Int) < (nm.size : Int) + (vr.size : Int)) = true := by simp; omega
      go_enter Tryd.func4, Tryd.ntmps4
      go_wp2
      go_ret
      exact ⟨rfl, rfl⟩
    · have h2 : decide ((1048576 : Int) < (vr.size : Int)) = true := by simp; omega
      go_enter Tryd.func4, Tryd.ntmps4
      go_wp2
      go_ret
      exact ⟨rfl, rfl⟩
  · have h1 : decide ((1048576 : Int) < (nm.size : Int)) = true := by simp; omega
    go_enter Tryd.func4, Tryd.ntmps4
    go_wp2
    go_ret
    exact ⟨rfl, rfl⟩

set_option maxHeartbeats 400000 in
theorem law3_far (nm vr : ByteArray) (l c : Int) (w : World) (m1 : nm.size ≤ maxLen) (m2 : vr.size ≤ maxLen) (h : ¬ nm.size + vr.size ≤ 1048576) :
    Calls Tryd.prog 3 #[.string nm, .int .i64 l, .int .i64 c, .string vr] w fun e w' => e = .returned (.bool true) ∧ Below w.heap.size w w' := by
  have z := hid (zzb4_no nm vr l c w m1 m2 h)
  clear m1 m2 h
  go_enter Tryd.func3, Tryd.ntmps3
  go_wp2_with fail
  refine z.out.mono ?_
  rintro e w' ⟨rfl, rfl⟩
  go_wp2_with fail
  go_ret
  exact ⟨rfl, Below.refl _ _⟩

theorem toList_inj {a b : ByteArray} (h : a.toList = b.toList) : a = b := by
  rw [ByteArray.toList_eq, ByteArray.toList_eq] at h
  obtain ⟨⟨a⟩⟩ := a
  obtain ⟨⟨b⟩⟩ := b
  simp only at h
  rw [h]
theorem eq28 (w : World) : (binOp .eql 28 (.slice none 0 0) (.slice none 0 0)).run Tryd.prog w = .ok (.bool true) w := by kernel_rfl
theorem eq29 (w : World) : (binOp .eql 29 (.pointer none) (.pointer none)).run Tryd.prog w = .ok (.bool true) w := by kernel_rfl
theorem eq30 (w : World) : (binOp .eql 30 (.map none) (.map none)).run Tryd.prog w = .ok (.bool true) w := by kernel_rfl

set_option maxHeartbeats 4000000 in
theorem law3_other (nm vr : ByteArray) (l c : Int) (w : World) (h : nm.size + vr.size ≤ 1048576) (h1 : (vr.toList == [84, 121, 112, 101]) = false) (h2 : (vr.toList == [85, 115, 101, 114]) = false) :
    Calls Tryd.prog 3 #[.string nm, .int .i64 l, .int .i64 c, .string vr] w fun e w' => e = .returned (.bool true) ∧ Below w.heap.size w w' := by
  have z := hid (zzb4_yes nm vr l c w h)
  have k1 : decide ((1048576 : Int) < (nm.size : Int)) = false := by simp; omega
  have k2 : decide ((1048576 : Int) < (vr.size : Int)) = false := by simp; omega
  have k3 : decide ((1048576 : Int) < (nm.size : Int) + (vr.size : Int)) = false := by simp; omega
  have e28 := eq28
  have e29 := eq29
  have e30 := eq30
  go_enter Tryd.func3, Tryd.ntmps3
  go_wp2_with fail
  refine z.out.mono ?_
  rintro e w0 ⟨rfl, rfl⟩
  clear z
  go_wp2_with fail
  refine (TypeDef_any nm vr l c _).mono ?_
  rintro e w1 ⟨rfl, hw1⟩
  have hcell : w1.cell? ⟨w0.heap.size, 5, none⟩ = some (.string vr) := by rw [hw1]; unfold defObj; rw [cell_of_row _ _ _ _ 38 (0, 0) (heap_alloc_new w0 _)]; rfl
  have hlt : w0.heap.size < w1.heap.size := by rw [hw1]; simp
  have HL1 : Hid (Below w0.heap.size w0 w1) := by rw [hw1]; exact (Below.refl _ _).alloc (Nat.le_refl _) _
  clear hw1
  go_wp2_with fail
  refine (ZZnew_other w0.heap.size vr w1 hcell hlt h1 h2).mono ?_
  rintro e w2 ⟨rfl, L2⟩
  have HL2 : Hid (Below w0.heap.size w0 w2) := HL1.out.trans (L2.mono (by omega))
  have hlt2 : w0.heap.size < w2.heap.size := Nat.lt_of_lt_of_le hlt L2.size
  clear L2 hcell HL1 hlt
  go_wp2_with fail
  refine (isVar_yes vr _).mono ?_
  rintro e w3 ⟨rfl, rfl⟩
  go_wp2_with fail
  refine (isVar_yes ⟨#[84, 121, 112, 101]⟩ _).mono ?_
  rintro e w4 ⟨rfl, rfl⟩
  go_wp2_with fail
  refine (isVar_yes ⟨#[85, 115, 101, 114]⟩ _).mono ?_
  rintro e w5 ⟨rfl, rfl⟩
  go_wp2_with fail
  go_ret
  exact ⟨rfl, HL2.out.trans ((((((((Below.refl _ _).alloc (Nat.le_refl _) _).alloc (by simp) _).alloc (by simp; omega) _).alloc (by simp; omega) _).alloc (by simp; omega) _).alloc (by simp; omega) _).mono (Nat.le_of_lt hlt2))⟩

set_option maxHeartbeats 4000000 in
theorem law3_type (nm : ByteArray) (l c : Int) (w : World) (h : nm.size + 4 ≤ 1048576) :
    Calls Tryd.prog 3 #[.string nm, .int .i64 l, .int .i64 c, .string ⟨#[84, 121, 112, 101]⟩] w fun e w' => e = .returned (.bool true) ∧ Below w.heap.size w w' := by
  have z := hid (zzb4_yes nm ⟨#[84, 121, 112, 101]⟩ l c w h)
  have k1 : decide ((1048576 : Int) < (nm.size : Int)) = false := by simp; omega
  have k3 : decide ((1048576 : Int) < (nm.size : Int) + 4) = false := by simp; omega
  have ct := catType
  have e28 := eq28
  have e29 := eq29
  have e30 := eq30
  go_enter Tryd.func3, Tryd.ntmps3
  go_wp2_with fail
  refine z.out.mono ?_
  rintro e w0 ⟨rfl, rfl⟩
  clear z
  go_wp2_with fail
  refine (TypeDef_any nm ⟨#[84, 121, 112, 101]⟩ l c _).mono ?_
  rintro e w1 ⟨rfl, hw1⟩
  have hcell : w1.cell? ⟨w0.heap.size, 5, none⟩ = some (.string ⟨#[84, 121, 112, 101]⟩) := by rw [hw1]; unfold defObj; rw [cell_of_row _ _ _ _ 38 (0, 0) (heap_alloc_new w0 _)]; rfl
  have hlt : w0.heap.size < w1.heap.size := by rw [hw1]; simp
  have HL1 : Hid (Below w0.heap.size w0 w1) := by rw [hw1]; exact (Below.refl _ _).alloc (Nat.le_refl _) _
  clear hw1
  go_wp2_with fail
  refine (ZZnew_type w0.heap.size w1 hcell hlt).mono ?_
  rintro e w2 ⟨rfl, L2⟩
  have HL2 : Hid (Below w0.heap.size w0 w2) := HL1.out.trans (L2.mono (by omega))
  have hlt2 : w0.heap.size < w2.heap.size := Nat.lt_of_lt_of_le hlt L2.size
  clear L2 hcell HL1 hlt
  go_wp2_with fail
  refine (isVar_yes ⟨#[84, 121, 112, 101, 50]⟩ _).mono ?_
  rintro e w3 ⟨rfl, rfl⟩
  go_wp2_with fail
  refine (isVar_yes ⟨#[84, 121, 112, 101]⟩ _).mono ?_
  rintro e w4 ⟨rfl, rfl⟩
  go_wp2_with fail
  refine (isVar_yes ⟨#[85, 115, 101, 114]⟩ _).mono ?_
  rintro e w5 ⟨rfl, rfl⟩
  go_wp2_with fail
  go_ret
  exact ⟨rfl, HL2.out.trans ((((((((Below.refl _ _).alloc (Nat.le_refl _) _).alloc (by simp) _).alloc (by simp; omega) _).alloc (by simp; omega) _).alloc (by simp; omega) _).alloc (by simp; omega) _).mono (Nat.le_of_lt hlt2))⟩

set_option maxHeartbeats 4000000 in
theorem law3_user (nm : ByteArray) (l c : Int) (w : World) (h : nm.size + 4 ≤ 1048576) :
    Calls Tryd.prog 3 #[.string nm, .int .i64 l, .int .i64 c, .string ⟨#[85, 115, 101, 114]⟩] w fun e w' => e = .returned (.bool true) ∧ Below w.heap.size w w' := by
  have z := hid (zzb4_yes nm ⟨#[85, 115, 101, 114]⟩ l c w h)
  have k1 : decide ((1048576 : Int) < (nm.size : Int)) = false := by simp; omega
  have k3 : decide ((1048576 : Int) < (nm.size : Int) + 4) = false := by simp; omega
  have ct := catUser
  have e28 := eq28
  have e29 := eq29
  have e30 := eq30
  go_enter Tryd.func3, Tryd.ntmps3
  go_wp2_with fail
  refine z.out.mono ?_
  rintro e w0 ⟨rfl, rfl⟩
  clear z
  go_wp2_with fail
  refine (TypeDef_any nm ⟨#[85, 115, 101, 114]⟩ l c _).mono ?_
  rintro e w1 ⟨rfl, hw1⟩
  have hcell : w1.cell? ⟨w0.heap.size, 5, none⟩ = some (.string ⟨#[85, 115, 101, 114]⟩) := by rw [hw1]; unfold defObj; rw [cell_of_row _ _ _ _ 38 (0, 0) (heap_alloc_new w0 _)]; rfl
  have hlt : w0.heap.size < w1.heap.size := by rw [hw1]; simp
  have HL1 : Hid (Below w0.heap.size w0 w1) := by rw [hw1]; exact (Below.refl _ _).alloc (Nat.le_refl _) _
  clear hw1
  go_wp2_with fail
  refine (ZZnew_user w0.heap.size w1 hcell hlt).mono ?_
  rintro e w2 ⟨rfl, L2⟩
  have HL2 : Hid (Below w0.heap.size w0 w2) := HL1.out.trans (L2.mono (by omega))
  have hlt2 : w0.heap.size < w2.heap.size := Nat.lt_of_lt_of_le hlt L2.size
  clear L2 hcell HL1 hlt
  go_wp2_with fail
  refine (isVar_yes ⟨#[85, 115, 101, 114, 50]⟩ _).mono ?_
  rintro e w3 ⟨rfl, rfl⟩
  go_wp2_with fail
  refine (isVar_yes ⟨#[84, 121, 112, 101]⟩ _).mono ?_
  rintro e w4 ⟨rfl, rfl⟩
  go_wp2_with fail
  refine (isVar_yes ⟨#[85, 115, 101, 114]⟩ _).mono ?_
  rintro e w5 ⟨rfl, rfl⟩
  go_wp2_with fail
  go_ret
  exact ⟨rfl, HL2.out.trans ((((((((Below.refl _ _).alloc (Nat.le_refl _) _).alloc (by simp) _).alloc (by simp; omega) _).alloc (by simp; omega) _).alloc (by simp; omega) _).alloc (by simp; omega) _).mono (Nat.le_of_lt hlt2))⟩

/-- The whole law. -/
theorem law3_any (nm vr : ByteArray) (l c : Int) (w : World) (m1 : nm.size ≤ maxLen) (m2 : vr.size ≤ maxLen) :
    Calls Tryd.prog 3 #[.string nm, .int .i64 l, .int .i64 c, .string vr] w fun e w' => e = .returned (.bool true) ∧ Below w.heap.size w w' := by
  by_cases h : nm.size + vr.size ≤ 1048576
  · by_cases ht : vr = ⟨#[84, 121, 112, 101]⟩
    · subst ht; exact law3_type nm l c w h
    · by_cases hu : vr = ⟨#[85, 115, 101, 114]⟩
      · subst hu; exact law3_user nm l c w h
      · refine law3_other nm vr l c w h ?_ ?_
        · exact beq_eq_false_iff_ne.2 (fun e => ht (toList_inj (e.trans (by kernel_rfl))))
        · exact beq_eq_false_iff_ne.2 (fun e => hu (toList_inj (e.trans (by kernel_rfl))))
  · exact law3_far nm vr l c w m1 m2 h

end Go.Proofs.Qxb6612176aDoor
