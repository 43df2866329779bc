/- The walks of skipWhile, ZZskipLetters, swLetterRunEnds and the law FnSkipWhileLettersCut (seat b6612721a). -/
import Derived.Test.Qxb6612721aWalks
namespace Go.Proofs.Qxb6612721a
open Go.RowKit

/-- r is where the run of letters of s from i on ends. -/
def RunEnd (s : ByteArray) (i r : Nat) : Prop :=
  i ≤ r ∧ (r ≤ s.size ∨ r = i) ∧ (∀ t (h : t < s.size), i ≤ t → t < r → letB (s[t].toNat : Int) = true) ∧ (∀ h : r < s.size, letB (s[r].toNat : Int) = false)

theorem byte_le (s : ByteArray) (k : Nat) (h : k < s.size) : (s[k].toNat : Int) ≤ 255 := by
  have := s[k].toNat_lt
  omega

/-- The run so far. -/
def Run (s : ByteArray) (i k : Nat) : Prop := i ≤ k ∧ (k ≤ s.size ∨ k = i) ∧ ∀ t (h : t < s.size), i ≤ t → t < k → letB (s[t].toNat : Int) = true
theorem Run.start (s : ByteArray) (i : Nat) : Run s i i := ⟨Nat.le_refl _, .inr rfl, fun t _ a b => by omega⟩
theorem Run.step {s : ByteArray} {i k : Nat} (h : Run s i k) (hk : k < s.size) (hl : letB (s[k].toNat : Int) = true) : Run s i (k + 1) :=
  ⟨by have := h.1; omega, .inl hk, fun t ht a b => by
    by_cases e : t = k
    · subst e; exact hl
    · exact h.2.2 t ht a (by omega)⟩
theorem Run.stop {s : ByteArray} {i k : Nat} (h : Run s i k) (hk : k < s.size) (hl : letB (s[k].toNat : Int) = false) : RunEnd s i k :=
  ⟨h.1, h.2.1, h.2.2, fun _ => hl⟩
theorem Run.out {s : ByteArray} {i k : Nat} (h : Run s i k) (hk : ¬ k < s.size) : RunEnd s i k :=
  ⟨h.1, h.2.1, h.2.2, fun h' => absurd h' hk⟩

set_option maxHeartbeats 400000 in
theorem skipWhile_any (s : ByteArray) (i : Nat) (w : World) (hs : s.size ≤ maxLen) (hi : (i : Int) ≤ 9223372036854775807) :
    Calls Try.prog 14 #[.string s, .int .i64 i, .func (.func 15) #[] #[]] w fun e w' => (∃ r : Nat, e = .returned (.int .i64 r) ∧ RunEnd s i r) ∧ w' = w := by
  unfold maxLen at hs
  go_enter Try.func14, Try.ntmps14
  go_wp2
  go_loop [1] (fun j => ∃ k : Nat, (k : Int) ≤ 9223372036854775807 ∧ j = .int .i64 k ∧ Run s i k) (fun j => s.size - (intOf j).toNat)
  case atStart => exact ⟨i, hi, rfl, Run.start s i⟩
  case round =>
    obtain ⟨k, hk, rfl, hR⟩ := hrel
    have HR : Hid (Run s i k) := hR
    clear hR
    by_cases hlt : k < s.size
    · cases hl : letB (s[k].toNat : Int) with
      | true =>
        have HL : Hid (letB (s[k].toNat : Int) = true) := hl
        have c : ∀ w, Calls Try.prog 15 #[.int .u8 (s[k].toNat : Int)] w fun e w' => e = .returned (.bool true) ∧ w' = w := fun w => hl ▸ isLetter_any _ w (by omega) (byte_le s k hlt)
        clear hl
        go_wp2_with (go_at_call 15; refine (c _).mono ?_; rintro e w' ⟨rfl, rfl⟩)
        go_round
        case rel => exact ⟨k + 1, by omega, by go_num, Run.step HR hlt HL⟩
        case measure => simp [intOf]; omega
      | false =>
        have HL : Hid (letB (s[k].toNat : Int) = false) := hl
        have c : ∀ w, Calls Try.prog 15 #[.int .u8 (s[k].toNat : Int)] w fun e w' => e = .returned (.bool false) ∧ w' = w := fun w => hl ▸ isLetter_any _ w (by omega) (byte_le s k hlt)
        clear hl
        go_wp2_with (go_at_call 15; refine (c _).mono ?_; rintro e w' ⟨rfl, rfl⟩)
        go_ret
        exact ⟨⟨k, rfl, Run.stop HR hlt HL⟩, rfl⟩
    · go_wp2
      go_ret
      exact ⟨⟨k, rfl, Run.out HR hlt⟩, rfl⟩

set_option maxHeartbeats 400000 in
theorem ZZskipLetters_any (s : ByteArray) (i : Nat) (w : World) (hs : s.size ≤ maxLen) (hi : (i : Int) ≤ 9223372036854775807) :
    Calls Try.prog 7 #[.string s, .int .i64 i] w fun e w' => (∃ r : Nat, e = .returned (.int .i64 r) ∧ RunEnd s i r) ∧ w' = w := by
  go_enter Try.func7, Try.ntmps7
  go_wp2_with fail
  refine (skipWhile_any s i _ hs hi).mono ?_
  rintro e w' ⟨⟨r, rfl, hr⟩, rfl⟩
  go_wp2_with fail
  go_ret
  exact ⟨⟨r, rfl, hr⟩, rfl⟩

/-! The plain law -/
theorem RunEnd.unique {s : ByteArray} {i a b : Nat} (ha : RunEnd s i a) (hb : RunEnd s i b) (hab : a < b) : False := by
  obtain ⟨a1, a2, a3, a4⟩ := ha
  obtain ⟨b1, b2, b3, b4⟩ := hb
  have hs : a < s.size := by omega
  have h1 := a4 hs
  have h2 := b3 a hs a1 hab
  rw [h1] at h2
  cases h2

theorem RunEnd.cut {s : ByteArray} {i k r rk : Nat} (hk : k ≤ s.size) (h : RunEnd s i r) (hc : RunEnd (s.extract 0 k) i rk) : rk = max i (min r k) := by
  obtain ⟨a1, a2, a3, a4⟩ := h
  obtain ⟨b1, b2, b3, b4⟩ := hc
  have hsz : (s.extract 0 k).size = k := by simp; omega
  have hget : ∀ t (ht : t < k), (s.extract 0 k)[t]'(by omega) = s[t]'(by omega) := by
    intro t ht
    rw [ByteArray.getElem_extract]
    simp
  rw [hsz] at b2
  by_cases hik : k ≤ i
  · omega
  · -- i < k ≤ size
    have hrk : rk ≤ k := by omega
    have hr : r ≤ s.size := by omega
    by_cases c1 : rk < min r k
    · exfalso
      have h1 := b4 (by omega)
      rw [hget rk (by omega)] at h1
      have h2 := a3 rk (by omega) b1 (by omega)
      rw [h1] at h2; cases h2
    · by_cases c2 : min r k < rk
      · exfalso
        have hlt : r < k := by omega
        have h1 := a4 (by omega)
        have h2 := b3 r (by omega) a1 (by omega)
        rw [hget r hlt] at h2
        rw [h1] at h2; cases h2
      · omega

set_option maxHeartbeats 400000 in
theorem swLetterRunEnds_any (s : ByteArray) (i r : Nat) (w : World) (hs : s.size ≤ maxLen) (h : RunEnd s i r) :
    Calls Try.prog 8 #[.string s, .int .i64 i, .int .i64 r] w fun e w' => e = .returned (.bool true) ∧ w' = w := by
  unfold maxLen at hs
  obtain ⟨a1, a2, a3, a4⟩ := h
  by_cases hi : s.size ≤ i
  · have hri : r = i := by omega
    subst hri
    clear a1 a2 a3 a4
    go_enter Try.func8, Try.ntmps8
    go_wp2
    go_ret
    exact ⟨rfl, rfl⟩
  · have hr : r ≤ s.size := by omega
    clear a2
    have A3 : Hid (∀ t (h : t < s.size), i ≤ t → t < r → letB (s[t].toNat : Int) = true) := a3
    have A4 : Hid (∀ h : r < s.size, letB (s[r].toNat : Int) = false) := a4
    clear a3 a4
    have hd1 : decide (r < i) = false := by simpa using a1
    have hd2 : decide (s.size < r) = false := by simpa using hr
    go_enter Try.func8, Try.ntmps8
    go_wp2
    go_loop [7] (fun j => ∃ k : Nat, i ≤ k ∧ k ≤ r ∧ j = .int .i64 k) (fun j => r - (intOf j).toNat)
    case atStart => exact ⟨i, Nat.le_refl _, a1, rfl⟩
    case round =>
      obtain ⟨k, hk0, hk, rfl⟩ := hrel
      by_cases hlt : k < r
      · have hks : k < s.size := by omega
        have hl := A3.out k hks hk0 hlt
        have c : ∀ w, Calls Try.prog 13 #[.int .u8 (s[k].toNat : Int)] w fun e w' => e = .returned (.bool true) ∧ w' = w := fun w => hl ▸ swLetter_any _ w
        clear hl
        go_wp2_with (go_at_call 13; refine (c _).mono ?_; rintro e w' ⟨rfl, rfl⟩)
        go_round
        case rel => exact ⟨k + 1, by omega, by omega, by go_num⟩
        case measure => simp [intOf]; omega
      · by_cases hrs : r < s.size
        · have hl := A4.out hrs
          have c : ∀ w, Calls Try.prog 13 #[.int .u8 (s[r].toNat : Int)] w fun e w' => e = .returned (.bool false) ∧ w' = w := fun w => hl ▸ swLetter_any _ w
          clear hl
          go_wp2_with (go_at_call 13; refine (c _).mono ?_; rintro e w' ⟨rfl, rfl⟩)
          go_ret
          exact ⟨rfl, rfl⟩
        · go_wp2
          go_ret
          exact ⟨rfl, rfl⟩

end Go.Proofs.Qxb6612721a
