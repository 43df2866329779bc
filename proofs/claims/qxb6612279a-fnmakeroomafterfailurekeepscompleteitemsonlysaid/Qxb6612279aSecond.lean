/- The bounds' helpers of the ItemBuffer laws; Done's ways as the law FnBufferHoldsWhatIsNotWrittenOut needs them (seat b6612279a). -/
import Derived.Test.Qxb6612279aEnds
namespace Go.Proofs.Qxb6612279a
open Go.RowKit

set_option maxHeartbeats 400000 in
theorem zzb14_yes (a1 a2 : Option Addr) (l1 c1 l2 c2 : Nat) (t : Bool) (w : World) (h : l1 + l2 ≤ 1048576) :
    Calls Try.prog 14 #[.slice a1 l1 c1, .slice a2 l2 c2, .bool t] w fun e w' => e = .returned (.bool true) ∧ w' = w := by
  have h1 : decide ((1048576 : Int) < (l1 : Int)) = false := by simp; omega
  have h2 : decide ((1048576 : Int) < (l2 : Int)) = false := by simp; omega
  have h3 : decide ((1048576 : Int) < (l1 : Int) + (l2 : Int)) = false := by simp; omega
  go_enter Try.func14, Try.ntmps14
  go_wp2
  go_ret
  exact ⟨rfl, rfl⟩

set_option maxHeartbeats 400000 in
theorem zzb14_no (a1 a2 : Option Addr) (l1 c1 l2 c2 : Nat) (t : Bool) (w : World) (m1 : l1 ≤ maxLen) (m2 : l2 ≤ maxLen) (h : ¬ l1 + l2 ≤ 1048576) :
    Calls Try.prog 14 #[.slice a1 l1 c1, .slice a2 l2 c2, .bool t] w fun e w' => e = .returned (.bool false) ∧ w' = w := by
  unfold maxLen at m1 m2
  by_cases k1 : l1 ≤ 1048576
  · have h1 : decide ((1048576 : Int) < (l1 : Int)) = false := by simp; omega
    by_cases k2 : l2 ≤ 1048576
    · have h2 : decide ((1048576 : Int) < (l2 : Int)) = false := by simp; omega
      have h3 : decide ((1048576 : Int) < (l1 : Int) + (l2 : Int)) = true := by simp; omega
      go_enter Try.func14, Try.ntmps14
      go_wp2
      go_ret
      exact ⟨rfl, rfl⟩
    · have h2 : decide ((1048576 : Int) < (l2 : Int)) = true := by simp; omega
      go_enter Try.func14, Try.ntmps14
      go_wp2
      go_ret
      exact ⟨rfl, rfl⟩
  · have h1 : decide ((1048576 : Int) < (l1 : Int)) = true := by simp; omega
    go_enter Try.func14, Try.ntmps14
    go_wp2
    go_ret
    exact ⟨rfl, rfl⟩

set_option maxHeartbeats 400000 in
theorem zzb24_yes (a1 a2 : Option Addr) (l1 c1 l2 c2 : Nat) (w : World) (h : l1 + l2 ≤ 1048576) :
    Calls Try.prog 24 #[.slice a1 l1 c1, .slice a2 l2 c2] w fun e w' => e = .returned (.bool true) ∧ w' = w := by
  have h1 : decide ((1048576 : Int) < (l1 : Int)) = false := by simp; omega
  have h2 : decide ((1048576 : Int) < (l2 : Int)) = false := by simp; omega
  have h3 : decide ((1048576 : Int) < (l1 : Int) + (l2 : Int)) = false := by simp; omega
  go_enter Try.func24, Try.ntmps24
  go_wp2
  go_ret
  exact ⟨rfl, rfl⟩

set_option maxHeartbeats 400000 in
theorem zzb24_no (a1 a2 : Option Addr) (l1 c1 l2 c2 : Nat) (w : World) (m1 : l1 ≤ maxLen) (m2 : l2 ≤ maxLen) (h : ¬ l1 + l2 ≤ 1048576) :
    Calls Try.prog 24 #[.slice a1 l1 c1, .slice a2 l2 c2] w fun e w' => e = .returned (.bool false) ∧ w' = w := by
  unfold maxLen at m1 m2
  by_cases k1 : l1 ≤ 1048576
  · have h1 : decide ((1048576 : Int) < (l1 : Int)) = false := by simp; omega
    by_cases k2 : l2 ≤ 1048576
    · have h2 : decide ((1048576 : Int) < (l2 : Int)) = false := by simp; omega
      have h3 : decide ((1048576 : Int) < (l1 : Int) + (l2 : Int)) = true := by simp; omega
      go_enter Try.func24, Try.ntmps24
      go_wp2
      go_ret
      exact ⟨rfl, rfl⟩
    · have h2 : decide ((1048576 : Int) < (l2 : Int)) = true := by simp; omega
      go_enter Try.func24, Try.ntmps24
      go_wp2
      go_ret
      exact ⟨rfl, rfl⟩
  · have h1 : decide ((1048576 : Int) < (l1 : Int)) = true := by simp; omega
    go_enter Try.func24, Try.ntmps24
    go_wp2
    go_ret
    exact ⟨rfl, rfl⟩

set_option maxHeartbeats 400000 in
theorem zzb25_yes (a1 a2 : Option Addr) (l1 c1 l2 c2 : Nat) (w : World) (h : l1 + l2 ≤ 1048576) :
    Calls Try.prog 25 #[.slice a1 l1 c1, .slice a2 l2 c2] w fun e w' => e = .returned (.bool true) ∧ w' = w := by
  have h1 : decide ((1048576 : Int) < (l1 : Int)) = false := by simp; omega
  have h2 : decide ((1048576 : Int) < (l2 : Int)) = false := by simp; omega
  have h3 : decide ((1048576 : Int) < (l1 : Int) + (l2 : Int)) = false := by simp; omega
  go_enter Try.func25, Try.ntmps25
  go_wp2
  go_ret
  exact ⟨rfl, rfl⟩

set_option maxHeartbeats 400000 in
theorem zzb25_no (a1 a2 : Option Addr) (l1 c1 l2 c2 : Nat) (w : World) (m1 : l1 ≤ maxLen) (m2 : l2 ≤ maxLen) (h : ¬ l1 + l2 ≤ 1048576) :
    Calls Try.prog 25 #[.slice a1 l1 c1, .slice a2 l2 c2] w fun e w' => e = .returned (.bool false) ∧ w' = w := by
  unfold maxLen at m1 m2
  by_cases k1 : l1 ≤ 1048576
  · have h1 : decide ((1048576 : Int) < (l1 : Int)) = false := by simp; omega
    by_cases k2 : l2 ≤ 1048576
    · have h2 : decide ((1048576 : Int) < (l2 : Int)) = false := by simp; omega
      have h3 : decide ((1048576 : Int) < (l1 : Int) + (l2 : Int)) = true := by simp; omega
      go_enter Try.func25, Try.ntmps25
      go_wp2
      go_ret
      exact ⟨rfl, rfl⟩
    · have h2 : decide ((1048576 : Int) < (l2 : Int)) = true := by simp; omega
      go_enter Try.func25, Try.ntmps25
      go_wp2
      go_ret
      exact ⟨rfl, rfl⟩
  · have h1 : decide ((1048576 : Int) < (l1 : Int)) = true := by simp; omega
    go_enter Try.func25, Try.ntmps25
    go_wp2
    go_ret
    exact ⟨rfl, rfl⟩

theorem out_held (B : List Nat) : out1 B ++ held1 B = B := by
  unfold out1 held1
  split <;> simp

/-- How many bytes stay held behind the second event. -/
def want5 (B P : List Nat) (t : Bool) : Nat := if (held1 B).length + P.length < 65536 then (held1 B).length + P.length else if t = true ∨ 65536 ≤ B.length then 0 else P.length

/-- The second event. -/
theorem Done_second (N ib b : Nat) (v0 v sv : Value) (B P : List Nat) (t : Bool) (w : World) (hNi : N ≤ ib) (hB : Blk w ib b v0 (whole1 B) .nilIface) (h : Rest N w b v sv (cells (held1 B) ++ cells P) (cells (out1 B))) (h1 : B.length ≤ 1048576) (h2 : P.length ≤ 1048576) :
    Calls Try.prog 17 #[.pointer (some ⟨ib, 0, none⟩), v, .bool t] w fun e w' => e = .returned .nilIface ∧ ∃ v' sv' H W wh, Blk w' ib b v' wh .nilIface ∧ Rest N w' b v' sv' (cells H) (cells W) ∧ W ++ H = B ++ P ∧ H.length = want5 B P t ∧ Below N w w' := by
  rw [← cells_append] at h
  have hl := length_cells (held1 B ++ P)
  rw [List.length_append] at hl
  have ho := length_cells (out1 B)
  have hob : (out1 B).length + (held1 B).length = B.length := by rw [← List.length_append, out_held]
  by_cases hlt : (held1 B).length + P.length < 65536
  · refine (Done_keep N ib b _ v0 v sv .nilIface _ _ t w hNi hB h (by omega)).mono ?_
    rintro e w' ⟨he, B', R', L'⟩
    exact ⟨he, v, sv, _, _, _, B', R', by rw [← List.append_assoc, out_held], by rw [want5, if_pos hlt, List.length_append], L'⟩
  · by_cases ht : t = true
    · subst ht
      refine (Done_whole N ib b ((held1 B).length + P.length) _ v0 v sv .nilIface _ _ true w hNi hB h (by omega) (by simp [hl]) (by omega) (by omega)).mono ?_
      rintro e w' ⟨he, v', sv', B', R', L'⟩
      rw [← hl, List.drop_length, List.take_length, ← cells_append] at R'
      exact ⟨he, v', sv', [], _, _, B', R', by rw [List.append_nil, ← List.append_assoc, out_held], by rw [want5, if_neg hlt, if_pos (.inl rfl)]; rfl, L'⟩
    · obtain rfl : t = false := by simpa using ht
      by_cases hge : 65536 ≤ B.length
      · have hw : whole1 B = -1 := by simp [whole1, hge]
        refine (Done_part N ib b _ v0 v sv .nilIface _ _ w hNi hB h (by omega) (by rw [hw]; omega) (by omega)).mono ?_
        rintro e w' ⟨he, v', sv', B', R', L'⟩
        rw [← cells_append] at R'
        exact ⟨he, v', sv', [], _, _, B', R', by rw [List.append_nil, ← List.append_assoc, out_held], by rw [want5, if_neg hlt, if_pos (.inr hge)]; rfl, L'⟩
      · have hw : whole1 B = B.length := by simp [whole1, hge]
        have hh : held1 B = B := by simp [held1, hge]
        have hoo : out1 B = [] := by simp [out1, hge]
        refine (Done_whole N ib b B.length _ v0 v sv .nilIface _ _ false w hNi hB h (by omega) (by simpa using hw) (by rw [hl, hh]; omega) (by omega)).mono ?_
        rintro e w' ⟨he, v', sv', B', R', L'⟩
        rw [hh, cells_drop, cells_take, hoo, ← cells_append, List.drop_left, List.take_left, List.nil_append] at R'
        exact ⟨he, v', sv', P, B, _, B', R', rfl, by rw [want5, if_neg hlt, if_neg (by simp; omega)], L'⟩

end Go.Proofs.Qxb6612279a
