/- ZZWritten, zzAfterFirst, the bounds' helpers; what is held and written, as views (seat b6612279a). -/
import Derived.Test.Qxb6612279aStart
namespace Go.Proofs.Qxb6612279a
open Go.RowKit

set_option maxHeartbeats 400000 in
theorem Bytes_any (b l cap : Nat) (ao : Option Addr) (w : World) (c0 : w.cell? ⟨b, 0, none⟩ = some (.slice ao l cap)) (c1 : w.cell? ⟨b, 1, none⟩ = some (.int .i64 0)) (hl : l ≤ cap) (hm : cap ≤ 9223372036854775807) (hn : ao = none ∨ ∃ g, ao = some ⟨g, 0, none⟩ ∧ 1 ≤ cap) (h0 : ao = none → cap = 0) :
    Calls Try.prog 34 #[.pointer (some ⟨b, 0, none⟩)] w fun e w' => e = .returned (.slice ao l cap) ∧ w' = w.drewN 1 := by
  rcases hn with rfl | ⟨g, rfl, hc⟩
  · obtain rfl := h0 rfl
    obtain rfl : l = 0 := by omega
    go_enter Try.func34, Try.ntmps34
    go_wp2
    go_region
    all_goals (go_wp2; go_ret; exact ⟨rfl, rfl⟩)
  · have hne : ¬ cap = 0 := by omega
    clear h0
    go_enter Try.func34, Try.ntmps34
    go_wp2
    go_region
    all_goals (go_wp2; go_ret; exact ⟨by simp, rfl⟩)

set_option maxHeartbeats 400000 in
/-- ZZWritten(out): the bytes written so far. -/
theorem Written_any (N b : Nat) (sv : Value) (bs : List Nat) (w : World) (h : Sink N w b sv (cells bs)) :
    Calls Try.prog 18 #[.pointer (some ⟨b, 0, none⟩)] w fun e w' => e = .returned sv ∧ w' = w.drewN 1 := by
  obtain ⟨⟨lr, hbk⟩, hown, hpos⟩ := h
  have hB : Calls Try.prog 34 #[.pointer (some ⟨b, 0, none⟩)] w fun e w' => e = .returned sv ∧ w' = w.drewN 1 := by
    rcases hown.2 with ⟨rfl, h0⟩ | ⟨g, cap, cur, rfl, _, hg, hlc, hcm, _⟩
    · exact Bytes_any b 0 0 none w (cell_at hbk 0 rfl) (cell_at hbk 1 rfl) (Nat.le_refl _) (by omega) (.inl rfl) (fun _ => rfl)
    · unfold maxLen at hcm
      have h1 : 1 ≤ (cells bs).length := by rcases hpos with h | h; cases h; exact h
      exact Bytes_any b _ cap _ w (cell_at hbk 0 rfl) (cell_at hbk 1 rfl) hlc (by omega) (.inr ⟨g, rfl, by omega⟩) (fun e => by cases e)
  have HB := hid hB
  clear hB hown hpos hbk
  go_enter Try.func18, Try.ntmps18
  go_wp2_with fail
  refine HB.out.mono ?_
  rintro e w' ⟨rfl, rfl⟩
  go_wp2_with fail
  go_ret
  exact ⟨rfl, rfl⟩

theorem view_written {N b : Nat} {sv : Value} {bs : List Nat} {w : World} (h : Sink N w b sv (cells bs)) : View w.heap.size w sv bs := by
  have hl := length_cells bs
  rcases h.own.2 with ⟨rfl, h0⟩ | ⟨g, cap, cur, rfl, _, hg, hlc, hcm, hcs, htk⟩
  · obtain rfl : bs = [] := List.eq_nil_of_length_eq_zero (by omega)
    exact View.nil _ _
  · rw [Nat.mul_one, hl] at htk
    rw [hl]
    exact view_row hg (by omega) htk

theorem view_held {N b : Nat} {v sv : Value} {bs : List Nat} {wr : List Value} {w : World} (h : Rest N w b v sv (cells bs) wr) : View w.heap.size w v bs := by
  have hl := length_cells bs
  obtain ⟨R, cap, cur, rfl, _, hR, hlc, hcm, _, htk, _⟩ := h.own
  rw [hl] at htk ⊢
  exact view_row hR (by omega) htk

theorem Rest.slice {N b : Nat} {v sv : Value} {bs : List Nat} {wr : List Value} {w : World} (h : Rest N w b v sv (cells bs) wr) : ∃ R cap, v = .slice (some ⟨R, 0, none⟩) bs.length cap := by
  obtain ⟨R, cap, cur, rfl, _⟩ := h.own
  exact ⟨R, cap, by rw [length_cells]⟩
theorem Sink.slice {N b : Nat} {sv : Value} {bs : List Nat} {w : World} (h : Sink N w b sv (cells bs)) : ∃ a cap, sv = .slice a bs.length cap := by
  have hl := length_cells bs
  rcases h.own.2 with ⟨rfl, h0⟩ | ⟨g, cap, cur, rfl, _⟩
  · exact ⟨none, 0, by rw [show bs.length = 0 by omega]⟩
  · exact ⟨_, cap, by rw [hl]⟩

theorem below_drewN (N : Nat) (w : World) (k : Nat) : Below N w (w.drewN k) := ⟨rfl, rfl, rfl, Nat.le_refl _, fun _ _ => rfl⟩

set_option maxHeartbeats 400000 in
theorem zzAfterFirst_any (a : Option Addr) (l c : Nat) (w : World) :
    Calls Try.prog 22 #[.slice a l c] w fun e w' => e = .returned (.tuple (if 65536 ≤ l then #[.slice none 0 0, .slice a l c] else #[.slice a l c, .slice none 0 0])) ∧ w' = w := by
  by_cases h : 65536 ≤ l
  · rw [if_pos h]
    have hI : decide ((65536 : Int) ≤ (l : Int)) = true := by simp; omega
    clear h
    go_enter Try.func22, Try.ntmps22
    go_wp2_with fail
    go_ret2
    exact ⟨rfl, rfl⟩
  · rw [if_neg h]
    have hI : decide ((65536 : Int) ≤ (l : Int)) = false := by simp; omega
    clear h
    go_enter Try.func22, Try.ntmps22
    go_wp2_with fail
    go_ret2
    exact ⟨rfl, rfl⟩

end Go.Proofs.Qxb6612279a
