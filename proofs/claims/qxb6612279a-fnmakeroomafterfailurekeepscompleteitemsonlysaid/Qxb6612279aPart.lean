/- The walks of writePart and writeFull (seat b6612279a). -/
import Derived.Test.Qxb6612279aFull
namespace Go.Proofs.Qxb6612279a
open Go.RowKit

set_option maxHeartbeats 4000000 in
theorem writePart_any (N ib b : Nat) (wh : Int) (v sv : Value) (held wr : List Value) (ev : Value) (w : World) (hNi : N ≤ ib) (hB : Blk w ib b v wh ev) (h : Rest N w b v sv held wr) (hlim : wr.length + held.length ≤ 1099511627776) :
    Calls Try.prog 40 #[.pointer (some ⟨ib, 0, none⟩)] w fun e w' => e = .returned (.tuple #[]) ∧ ∃ v' sv', Blk w' ib b v' (-1) ev ∧ Rest N w' b v' sv' [] (wr ++ held) ∧ Below N w w' := by
  obtain ⟨R, cap, cur, hv, hNR, hR, hlc, hcm, hcs, htk, hRsv⟩ := h.own
  have hcm' := hcm
  unfold maxLen at hcm'
  have hm := method_part
  subst hv
  have c0 : w.cell? ⟨ib, 0, none⟩ = some (.iface 67 (.agg #[.iface 29 (.pointer (some ⟨b, 0, none⟩))])) := cell_at hB 0 rfl
  have c1 : w.cell? ⟨ib, 1, none⟩ = some (.slice (some ⟨R, 0, none⟩) held.length cap) := cell_at hB 1 rfl
  have hWr : ∀ W, W.heap = w.heap → W.os = w.os → W.tape = w.tape → W.output = w.output → Calls Try.prog 66 #[.agg #[.iface 29 (.pointer (some ⟨b, 0, none⟩))], .slice (some ⟨R, 0, none⟩) held.length cap] W fun e w' => e = .returned (.tuple #[.int .i64 held.length, .nilIface]) ∧
      ∃ sv', Sink N w' b sv' (wr ++ held) ∧ sv'.ownBlock ≠ some R ∧ Kept2 w w' b sv.ownBlock := by
    intro W e1 e2 e3 e4
    have hk0 : Kept2 w W b sv.ownBlock := ⟨e2, e3, e4, by rw [e1]; exact Nat.le_refl _, fun k _ _ _ => by rw [e1]⟩
    refine (WritePart_any N b sv wr R held.length cap cur W (h.sink.frame (by rw [e1]) (fun g _ => by rw [e1])) (by rw [e1]; exact h.hNw) h.ones2 (by rw [e1]; exact hR) hRsv (by omega) (by rw [htk]; exact h.ones1) (by omega)).mono ?_
    rintro e w' ⟨he, sv', hs, hne, hk⟩
    rw [htk] at hs
    exact ⟨he, sv', hs, hne, hk0.trans hk⟩
  have HW := hid hWr
  clear hWr
  go_enter Try.func40, Try.ntmps40
  go_wp2_with fail
  go_region_with (
    go_at_call 66
    refine (HW.out _ ?_ ?_ ?_ ?_).mono ?_
    exact rfl
    exact rfl
    exact rfl
    exact rfl
    rintro e w1 ⟨rfl, sv1, hs1, hne1, hk1⟩)
  all_goals (
    obtain ⟨B1, R1, L1⟩ := after_write hB h hR hRsv hs1 hk1
    have g1 : w1.cell? ⟨ib, 1, none⟩ = some (.slice (some ⟨R, 0, none⟩) held.length cap) := cell_at B1 1 rfl
    have HB1 := hid B1
    have HR1 := hid R1
    clear B1 R1 c0 c1 hm HW
    go_wp2_with fail
    refine (wrote_any ib R held.length cap held.length _ ev wh cur w1 HB1.out HR1.out hlc hcm hcs (Nat.le_refl _) (by rw [htk]; exact h.ones1)).mono ?_
    rintro e w2 ⟨rfl, cur', j1, j2, j3, j4, j5⟩
    go_wp2_with fail
    go_end0
    obtain ⟨q1, q2⟩ := after_wrote (N := N) (b := b) (sv := sv1) (held := held) (wr := wr ++ held) (Nat.le_trans h.hNw L1.size) h.hNb hNi hNR HB1.out HR1.out hne1 hs1 htk hlc hcm h.ones1 (fun x hx => by rcases List.mem_append.1 hx with hx | hx; exact h.ones2 x hx; exact h.ones1 x hx) j2 j3 j4 j5
    rw [List.drop_length] at q1
    exact ⟨rfl, _, sv1, j1, q1, L1.trans q2⟩)

set_option maxHeartbeats 400000 in
theorem writeWhole_none (ib b : Nat) (wh : Int) (v ev : Value) (w : World) (hB : Blk w ib b v wh ev) (hneg : wh < 0) :
    Calls Try.prog 39 #[.pointer (some ⟨ib, 0, none⟩)] w fun e w' => e = .returned (.bool false) ∧ w' = w := by
  have c2 : w.cell? ⟨ib, 2, none⟩ = some (.int .i64 wh) := cell_at hB 2 rfl
  go_enter Try.func39, Try.ntmps39
  go_wp2_with fail
  go_ret
  exact ⟨rfl, rfl⟩

set_option maxHeartbeats 400000 in
theorem writeFull_whole (N ib b n : Nat) (v sv : Value) (held wr : List Value) (ev : Value) (w : World) (hNi : N ≤ ib) (hB : Blk w ib b v n ev) (h : Rest N w b v sv held wr) (hn : n ≤ held.length) (hlim : wr.length + held.length ≤ 1099511627776) :
    Calls Try.prog 33 #[.pointer (some ⟨ib, 0, none⟩)] w fun e w' => e = .returned (.tuple #[]) ∧ ∃ v' sv', Blk w' ib b v' (-1) ev ∧ Rest N w' b v' sv' (held.drop n) (wr ++ held.take n) ∧ Below N w w' := by
  go_enter Try.func33, Try.ntmps33
  go_wp2_with fail
  refine (writeWhole_any N ib b n v sv held wr ev w hNi hB h hn hlim).mono ?_
  rintro e w' ⟨rfl, H⟩
  have H' := hid H
  clear H
  go_wp2_with fail
  go_end0
  exact ⟨rfl, H'.out⟩

set_option maxHeartbeats 400000 in
theorem writeFull_part (N ib b : Nat) (wh : Int) (v sv : Value) (held wr : List Value) (ev : Value) (w : World) (hNi : N ≤ ib) (hB : Blk w ib b v wh ev) (hneg : wh < 0) (h : Rest N w b v sv held wr) (hlim : wr.length + held.length ≤ 1099511627776) :
    Calls Try.prog 33 #[.pointer (some ⟨ib, 0, none⟩)] w fun e w' => e = .returned (.tuple #[]) ∧ ∃ v' sv', Blk w' ib b v' (-1) ev ∧ Rest N w' b v' sv' [] (wr ++ held) ∧ Below N w w' := by
  have HB := hid hB
  have HR := hid h
  clear hB h
  go_enter Try.func33, Try.ntmps33
  go_wp2_with fail
  refine (writeWhole_none ib b wh v ev w HB.out hneg).mono ?_
  rintro e w' ⟨rfl, rfl⟩
  go_wp2_with fail
  refine (writePart_any N ib b wh v sv held wr ev _ hNi HB.out HR.out hlim).mono ?_
  rintro e w'' ⟨rfl, H⟩
  have H' := hid H
  clear H
  go_wp2_with fail
  go_end0
  exact ⟨rfl, H'.out⟩

end Go.Proofs.Qxb6612279a
