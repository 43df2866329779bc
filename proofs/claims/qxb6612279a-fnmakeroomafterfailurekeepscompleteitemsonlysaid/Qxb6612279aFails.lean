/- ZZFail, makeRoom and MakeRoom behind a failure (seat b6612279a). -/
import Derived.Test.Qxb6612279aSecond
namespace Go.Proofs.Qxb6612279a
open Go.RowKit

/-- The error that ZZFail hands over. -/
def errAt (p : Addr) : Value := .iface 60 (.pointer (some p))
theorem neq34err (p : Addr) (w : World) : (binOp .neq 34 (.iface 60 (.pointer (some p))) .nilIface).run Try.prog w = .ok (.bool true) w := by kernel_rfl

theorem Rest.old {N : Nat} {w w' : World} {b : Nat} {v sv : Value} {held wr : List Value} (h : Rest N w b v sv held wr) (hb : Below w.heap.size w w') : Rest N w' b v sv held wr := by
  obtain ⟨⟨R, cap, cur, h1, h2, h3, h4⟩, hs, o1, o2, hN, hNb⟩ := h
  obtain ⟨lr, hbk⟩ := hs.blk
  exact ⟨⟨R, cap, cur, h1, h2, (hb.block R (lt_of_heap h3)).trans h3, h4⟩, hs.frame (hb.block b (lt_of_heap hbk)) (fun g hg => hb.block g (ownBlock_lt hs.own hg).1), o1, o2, Nat.le_trans hN hb.size, hNb⟩
theorem Blk.old {w w' : World} {ib b : Nat} {v ev : Value} {wh : Int} (h : Blk w ib b v wh ev) (hb : Below w.heap.size w w') : Blk w' ib b v wh ev := (hb.block ib (lt_of_heap h)).trans h

set_option maxHeartbeats 400000 in
theorem ZZFail_any (N ib b : Nat) (wh : Int) (v sv : Value) (held wr : List Value) (w : World) (hNi : N ≤ ib) (hB : Blk w ib b v wh .nilIface) (h : Rest N w b v sv held wr) :
    Calls Try.prog 26 #[.pointer (some ⟨ib, 0, none⟩)] w fun e w' => e = .returned (.tuple #[]) ∧ ∃ p, Blk w' ib b v wh (errAt p) ∧ Rest N w' b v sv held wr ∧ Below N w w' := by
  have B3 := hB.set3 (errAt ⟨w.heap.size, 0, none⟩)
  have R3 := h.setIb hB 3 (errAt ⟨w.heap.size, 0, none⟩)
  have L3 : Below N w (w.setCell ⟨ib, 3, none⟩ (errAt ⟨w.heap.size, 0, none⟩)) := (Below.refl N w).setCell (p := ⟨ib, 3, none⟩) hNi _
  have hsz : (w.setCell ⟨ib, 3, none⟩ (errAt ⟨w.heap.size, 0, none⟩)).heap.size = w.heap.size := by simp [World.setCell]
  have HF : Hid (∀ o, ∃ p, Blk ((w.setCell ⟨ib, 3, none⟩ (errAt ⟨w.heap.size, 0, none⟩)).alloc o) ib b v wh (errAt p) ∧ Rest N ((w.setCell ⟨ib, 3, none⟩ (errAt ⟨w.heap.size, 0, none⟩)).alloc o) b v sv held wr ∧ Below N w ((w.setCell ⟨ib, 3, none⟩ (errAt ⟨w.heap.size, 0, none⟩)).alloc o)) :=
    fun o => ⟨_, B3.old ((Below.refl _ _).alloc (Nat.le_refl _) _), R3.old ((Below.refl _ _).alloc (Nat.le_refl _) _), L3.alloc (by rw [hsz]; exact h.hNw) _⟩
  have c3 : ∀ o, (w.alloc o).cell? ⟨ib, 3, none⟩ = some .nilIface := fun o => (hB.old ((Below.refl _ _).alloc (Nat.le_refl _) o)).cell3
  have f3 : ∀ o, (w.alloc o).frozen? ⟨ib, 3, none⟩ = false := fun o => (hB.old ((Below.refl _ _).alloc (Nat.le_refl _) o)).frozen 3
  have hlt : ib < w.heap.size := lt_of_heap hB
  have eq := eql34nil
  unfold errAt at HF
  clear B3 R3 L3 h hsz
  have c3' := hB.cell3
  have f3' := hB.frozen 3
  clear hB
  go_enter Try.func26, Try.ntmps26
  go_wp2
  go_end0
  exact ⟨rfl, HF.out _⟩

/-- The slice's first n bytes are kept. -/
theorem Rest.cut {N : Nat} {w : World} {b : Nat} {sv : Value} {held wr : List Value} {R cap : Nat} (h : Rest N w b (.slice (some ⟨R, 0, none⟩) held.length cap) sv held wr) (n : Nat) (hn : n ≤ held.length) : Rest N w b (.slice (some ⟨R, 0, none⟩) n cap) sv (held.take n) wr := by
  obtain ⟨⟨R', cap', cur, h1, h2, h3, h4, h5, h6, h7, h8⟩, hs, o1, o2, hN, hNb⟩ := h
  injection h1 with e1 _ e2
  injection e1 with e1
  injection e1 with e1
  subst e1; subst e2
  have hl : (held.take n).length = n := by rw [List.length_take]; omega
  refine ⟨⟨R, cap, cur, by rw [hl], h2, h3, by rw [hl]; omega, h5, h6, ?_, h8⟩, hs, fun x hx => o1 x (List.mem_of_mem_take hx), o2, hN, hNb⟩
  rw [hl, ← h7, List.take_take, Nat.min_eq_left hn]

set_option maxHeartbeats 2000000 in
theorem makeRoom_fail (N ib b n : Nat) (wh : Int) (v0 v sv : Value) (p : Addr) (held wr : List Value) (w : World) (hNi : N ≤ ib) (hB : Blk w ib b v0 wh (errAt p)) (h : Rest N w b v sv held wr) (hn : n ≤ held.length) (hw : (wh = -1 ∧ n = 0) ∨ wh = n) :
    Calls Try.prog 35 #[.pointer (some ⟨ib, 0, none⟩), v] w fun e w' => ∃ x, e = .returned x ∧ Blk w' ib b x wh (errAt p) ∧ Rest N w' b x sv (held.take n) wr ∧ Below N w w' := by
  obtain ⟨R, cap, cur, hv, -, -, hlc, hcm, -⟩ := h.own
  have hcm' := hcm
  unfold maxLen at hcm'
  have c1 := hB.cell1
  have f1 := hB.frozen 1
  have B1 := hB.set1 v
  have R1 := h.setIb hB 1 v
  have L1 : Below N w (w.setCell ⟨ib, 1, none⟩ v) := (Below.refl N w).setCell (p := ⟨ib, 1, none⟩) hNi v
  have d3 := B1.cell3
  clear hB h
  subst hv
  have nn := neq34err p
  unfold errAt at d3
  have HB1 := hid B1
  have HR1 := hid R1
  have HL1 := hid L1
  clear B1 R1 L1
  go_enter Try.func35, Try.ntmps35
  go_wp2
  clear c1 f1 d3
  generalize w.setCell ⟨ib, 1, none⟩ (.slice (some ⟨R, 0, none⟩) held.length cap) = W at *
  have c1 := HB1.out.cell1
  have c2 := HB1.out.cell2
  have f1 := HB1.out.frozen 1
  have B2 := HB1.out.set1 (.slice (some ⟨R, 0, none⟩) n cap)
  have R2 := (HR1.out.cut n hn).setIb HB1.out 1 (.slice (some ⟨R, 0, none⟩) n cap)
  have L2 : Below N w (W.setCell ⟨ib, 1, none⟩ (.slice (some ⟨R, 0, none⟩) n cap)) := HL1.out.setCell (p := ⟨ib, 1, none⟩) hNi _
  have k1 := B2.cell1
  have HB2 := hid B2
  have HR2 := hid R2
  have HL2 := hid L2
  clear B2 R2 L2
  rcases hw with ⟨rfl, rfl⟩ | rfl
  · go_region
    go_wp2
    go_ret
    exact ⟨_, rfl, HB2.out.old ((Below.refl _ _).drew), HR2.out.old ((Below.refl _ _).drew), HL2.out.drew⟩
  · go_region
    go_wp2
    go_ret
    exact ⟨_, rfl, HB2.out.old ((Below.refl _ _).drew), HR2.out.old ((Below.refl _ _).drew), HL2.out.drew⟩

/-- What MakeRoom hands back behind a failure. -/
def got8 (B P : List Nat) : List Nat := if (held1 B).length + P.length < 65536 then held1 B ++ P else held1 B

theorem MakeRoom_failed (N ib b : Nat) (v0 v sv : Value) (p : Addr) (B P : List Nat) (w : World) (hNi : N ≤ ib) (hB : Blk w ib b v0 (whole1 B) (errAt p)) (h : Rest N w b v sv (cells (held1 B) ++ cells P) (cells (out1 B))) :
    Calls Try.prog 23 #[.pointer (some ⟨ib, 0, none⟩), v] w fun e w' => ∃ x, e = .returned x ∧ ∃ v1, Blk w' ib b v1 (whole1 B) (errAt p) ∧ Rest N w' b x sv (cells (got8 B P)) (cells (out1 B)) ∧ Below N w w' := by
  rw [← cells_append] at h
  have hl := length_cells (held1 B ++ P)
  rw [List.length_append] at hl
  obtain ⟨R, cap, hv⟩ := h.slice
  by_cases hlt : (held1 B).length + P.length < 65536
  · have e1 : got8 B P = held1 B ++ P := by rw [got8, if_pos hlt]
    rw [e1, hv]
    refine (MakeRoom_below ib R _ cap w (by rw [List.length_append]; exact hlt)).mono ?_
    rintro e w' ⟨he, rfl⟩
    rw [hv] at h
    exact ⟨_, he, v0, hB, h, Below.refl _ _⟩
  · have e1 : got8 B P = held1 B := by rw [got8, if_neg hlt]
    have hrun : Calls Try.prog 35 #[.pointer (some ⟨ib, 0, none⟩), v] w fun e w' => ∃ x, e = .returned x ∧ ∃ v1, Blk w' ib b v1 (whole1 B) (errAt p) ∧ Rest N w' b x sv (cells (got8 B P)) (cells (out1 B)) ∧ Below N w w' := by
      refine (makeRoom_fail N ib b (held1 B).length (whole1 B) v0 v sv p _ _ w hNi hB h (by rw [hl]; omega) ?_).mono ?_
      · unfold whole1 held1
        split
        · exact .inl ⟨rfl, rfl⟩
        · exact .inr rfl
      · rintro e w' ⟨x, he, B', R', L'⟩
        rw [cells_take, List.take_left] at R'
        rw [e1]
        exact ⟨x, he, x, B', R', L'⟩
    rw [hv] at hrun ⊢
    exact MakeRoom_run ib R _ cap w (by rw [List.length_append]; omega) _ hrun

end Go.Proofs.Qxb6612279a
