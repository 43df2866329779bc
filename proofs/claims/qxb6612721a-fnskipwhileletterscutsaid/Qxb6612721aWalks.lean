/- The shared walks of seat b6612721a: isLetter, ZZisLetter, swLetter. -/
import Derived.Test.Qxb6612721aRows
import Derived.WalkKit
import Derived.WalkSpells
import Derived.WalkLawsBesides
namespace Go.Proofs.Qxb6612721a
open Go.RowKit

def letB (c : Int) : Bool := decide ((65 ≤ c ∧ c ≤ 90) ∨ (97 ≤ c ∧ c ≤ 122))

theorem or32_nat : ∀ n : Nat, n < 256 → ((97 ≤ bits .or .u8 (n : Int) 32 ∧ bits .or .u8 (n : Int) 32 ≤ 122) ↔ letB n = true) := by
  decide +kernel
theorem xor32_nat : ∀ n : Nat, n < 256 → letB (bits .xor .u8 (n : Int) 32) = letB n ∧ 0 ≤ bits .xor .u8 (n : Int) 32 ∧ bits .xor .u8 (n : Int) 32 ≤ 255 := by
  decide +kernel
theorem or32 (c : Int) (h0 : 0 ≤ c) (h1 : c ≤ 255) : (97 ≤ bits .or .u8 c 32 ∧ bits .or .u8 c 32 ≤ 122) ↔ letB c = true := by
  have := or32_nat c.toNat (by omega)
  rwa [Int.toNat_of_nonneg h0] at this
theorem xor32 (c : Int) (h0 : 0 ≤ c) (h1 : c ≤ 255) : letB (bits .xor .u8 c 32) = letB c ∧ 0 ≤ bits .xor .u8 c 32 ∧ bits .xor .u8 c 32 ≤ 255 := by
  have := xor32_nat c.toNat (by omega)
  rwa [Int.toNat_of_nonneg h0] at this

theorem ret_bool {a b : Bool} (h : a = b) : Ending.returned (.bool a) = .returned (.bool b) := by rw [h]
theorem ret_int {k : IntKind} {a b : Int} (h : a = b) : Ending.returned (.int k a) = .returned (.int k b) := by rw [h]
theorem letB_yes {c : Int} (H : (97 ≤ bits .or .u8 c 32 ∧ bits .or .u8 c 32 ≤ 122) ↔ letB c = true) (a : 97 ≤ bits .or .u8 c 32) (b : bits .or .u8 c 32 ≤ 122) : true = letB c := (H.mp ⟨a, b⟩).symm
theorem letB_hi {c : Int} (H : (97 ≤ bits .or .u8 c 32 ∧ bits .or .u8 c 32 ≤ 122) ↔ letB c = true) (b : 122 < bits .or .u8 c 32) : false = letB c := by
  cases h : letB c with
  | false => rfl
  | true => have := (H.mpr h).2; omega
theorem letB_lo {c : Int} (H : (97 ≤ bits .or .u8 c 32 ∧ bits .or .u8 c 32 ≤ 122) ↔ letB c = true) (b : bits .or .u8 c 32 < 97) : false = letB c := by
  cases h : letB c with
  | false => rfl
  | true => have := (H.mpr h).1; omega

set_option maxHeartbeats 400000 in
theorem isLetter_any (c : Int) (w : World) (h0 : 0 ≤ c) (h1 : c ≤ 255) :
    Calls Try.prog 15 #[.int .u8 c] w fun e w' => e = .returned (.bool (letB c)) ∧ w' = w := by
  have H : Hid (_ ↔ _) := or32 c h0 h1
  clear h0 h1
  by_cases a : 97 ≤ bits .or .u8 c 32
  · by_cases b : bits .or .u8 c 32 ≤ 122
    · go_enter Try.func15, Try.ntmps15
      go_wp2
      go_ret
      exact ⟨ret_bool (letB_yes H a b), rfl⟩
    · go_enter Try.func15, Try.ntmps15
      go_wp2
      go_ret
      exact ⟨ret_bool (letB_hi H b), rfl⟩
  · go_enter Try.func15, Try.ntmps15
    go_wp2
    go_ret
    exact ⟨ret_bool (letB_lo H a), rfl⟩

set_option maxHeartbeats 400000 in
theorem ZZisLetter_any (c : Int) (w : World) (h0 : 0 ≤ c) (h1 : c ≤ 255) :
    Calls Try.prog 12 #[.int .u8 c] w fun e w' => e = .returned (.bool (letB c)) ∧ w' = w := by
  go_enter Try.func12, Try.ntmps12
  go_wp2_with (go_at_call 15; refine (isLetter_any _ _ h0 h1).mono ?_; rintro e w' ⟨rfl, rfl⟩)
  go_ret
  exact ⟨rfl, rfl⟩

set_option maxHeartbeats 400000 in
theorem swLetter_any (c : Int) (w : World) :
    Calls Try.prog 13 #[.int .u8 c] w fun e w' => e = .returned (.bool (letB c)) ∧ w' = w := by
  by_cases a : 65 ≤ c <;> by_cases b : c ≤ 90 <;> by_cases d : 97 ≤ c <;> by_cases g : c ≤ 122 <;> try omega
  all_goals
    go_enter Try.func13, Try.ntmps13
    go_wp2
    go_ret
    exact ⟨ret_bool (by simp only [letB, Bool.true_eq, Bool.false_eq, decide_eq_true_eq, decide_eq_false_iff_not]; omega), rfl⟩

set_option maxHeartbeats 400000 in
theorem fnIsLetter_any (c : Int) (w : World) (h0 : 0 ≤ c) (h1 : c ≤ 255) :
    Calls Try.prog 5 #[.int .u8 c] w fun e w' => e = .returned (.bool true) ∧ w' = w := by
  obtain ⟨hx, hx0, hx1⟩ := xor32 c h0 h1
  cases hc : letB c with
  | true =>
    rw [hc] at hx
    have c1 : ∀ w, Calls Try.prog 12 #[.int .u8 c] w fun e w' => e = .returned (.bool true) ∧ w' = w := fun w => hc ▸ ZZisLetter_any c w h0 h1
    have c2 : ∀ w, Calls Try.prog 12 #[.int .u8 (bits .xor .u8 c 32)] w fun e w' => e = .returned (.bool true) ∧ w' = w := fun w => hx ▸ ZZisLetter_any _ w hx0 hx1
    have c3 : ∀ w, Calls Try.prog 13 #[.int .u8 c] w fun e w' => e = .returned (.bool true) ∧ w' = w := fun w => hc ▸ swLetter_any c w
    clear hc hx
    go_enter Try.func5, Try.ntmps5
    go_wp2_with fail
    refine (c1 _).mono ?_
    rintro e w' ⟨rfl, rfl⟩
    go_wp2_with fail
    refine (c2 _).mono ?_
    rintro e w' ⟨rfl, rfl⟩
    go_wp2_with fail
    refine (c3 _).mono ?_
    rintro e w' ⟨rfl, rfl⟩
    go_wp2_with fail
    go_ret
    exact ⟨rfl, rfl⟩
  | false =>
    rw [hc] at hx
    have c1 : ∀ w, Calls Try.prog 12 #[.int .u8 c] w fun e w' => e = .returned (.bool false) ∧ w' = w := fun w => hc ▸ ZZisLetter_any c w h0 h1
    have c2 : ∀ w, Calls Try.prog 12 #[.int .u8 (bits .xor .u8 c 32)] w fun e w' => e = .returned (.bool false) ∧ w' = w := fun w => hx ▸ ZZisLetter_any _ w hx0 hx1
    have c3 : ∀ w, Calls Try.prog 13 #[.int .u8 c] w fun e w' => e = .returned (.bool false) ∧ w' = w := fun w => hc ▸ swLetter_any c w
    clear hc hx
    go_enter Try.func5, Try.ntmps5
    go_wp2_with fail
    refine (c1 _).mono ?_
    rintro e w' ⟨rfl, rfl⟩
    go_wp2_with fail
    refine (c2 _).mono ?_
    rintro e w' ⟨rfl, rfl⟩
    go_wp2_with fail
    refine (c3 _).mono ?_
    rintro e w' ⟨rfl, rfl⟩
    go_wp2_with fail
    go_ret
    exact ⟨rfl, rfl⟩

end Go.Proofs.Qxb6612721a
