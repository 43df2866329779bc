/- The walks of Buffer, Done, makeRoom, MakeRoom, Fail (seat b6612279a). -/
import Derived.Test.Qxb6612279aPart
namespace Go.Proofs.Qxb6612279a
open Go.RowKit

set_option maxHeartbeats 400000 in
theorem Buffer_any (ib b : Nat) (wh : Int) (v ev : Value) (w : World) (hB : Blk w ib b v wh ev) :
    Calls Try.prog 16 #[.pointer (some ⟨ib, 0, none⟩)] w fun e w' => e = .returned v ∧ w' = w := by
  have c1 : w.cell? ⟨ib, 1, none⟩ = some v := cell_at hB 1 rfl
  go_enter Try.func16, Try.ntmps16
  go_wp2_with fail
  go_ret
  exact ⟨rfl, rfl⟩

theorem Rest.below {N M : Nat} {w w' : World} {b : Nat} {v sv : Value} {held wr : List Value} (h : Rest N w b v sv held wr) (hsz : w.heap.size ≤ w'.heap.size)
    (hk : ∀ k, k < w.heap.size → k ≠ M → w'.heap[k]? = w.heap[k]?) {cs : Array Value} (hM : w.heap[M]? = some (.cells cs 51 (0, 0))) : Rest N w' b v sv held wr := by
  obtain ⟨⟨R, cap, cur, h1, h2, h3, h4⟩, hs, o1, o2, hN, hNb⟩ := h
  obtain ⟨lr, hbk⟩ := hs.blk
  refine ⟨⟨R, cap, cur, h1, h2, (hk R (lt_of_heap h3) (ne_of_tags h3 hM (by decide))).trans h3, h4⟩, hs.frame (hk b (lt_of_heap hbk) (ne_of_tags hbk hM (by decide))) (fun g hg => ?_), o1, o2, Nat.le_trans hN hsz, hNb⟩
  obtain ⟨hlt, _, c, hc⟩ := ownBlock_lt hs.own hg
  exact hk g hlt (ne_of_tags hc hM (by decide))

theorem Rest.setIb {N : Nat} {w : World} {ib b : Nat} {v sv v0 ev : Value} {wh : Int} {held wr : List Value} (h : Rest N w b v sv held wr) (hB : Blk w ib b v0 wh ev) (i : Nat) (x : Value) : Rest N (w.setCell ⟨ib, i, none⟩ x) b v sv held wr :=
  h.below (M := ib) (by simp [World.setCell]) (fun k _ hk => Below.heap_setCell _ _ _ _ hk) hB

theorem Blk.set1 {w : World} {ib b : Nat} {v0 ev : Value} {wh : Int} (hB : Blk w ib b v0 wh ev) (v : Value) : Blk (w.setCell ⟨ib, 1, none⟩ v) ib b v wh ev := by
  have h := heap_setCell_same w ib 1 _ _ v hB
  simpa [Blk] using h
theorem Blk.set2 {w : World} {ib b : Nat} {v0 ev : Value} {wh : Int} (hB : Blk w ib b v0 wh ev) (n : Int) : Blk (w.setCell ⟨ib, 2, none⟩ (.int .i64 n)) ib b v0 n ev := by
  have h := heap_setCell_same w ib 2 _ _ (.int .i64 n) hB
  simpa [Blk] using h
theorem Blk.set3 {w : World} {ib b : Nat} {v0 ev : Value} {wh : Int} (hB : Blk w ib b v0 wh ev) (x : Value) : Blk (w.setCell ⟨ib, 3, none⟩ x) ib b v0 wh x := by
  have h := heap_setCell_same w ib 3 _ _ x hB
  simpa [Blk] using h
theorem Blk.cell1 {w : World} {ib b : Nat} {v0 ev : Value} {wh : Int} (hB : Blk w ib b v0 wh ev) : w.cell? ⟨ib, 1, none⟩ = some v0 := cell_at hB 1 rfl
theorem Blk.cell2 {w : World} {ib b : Nat} {v0 ev : Value} {wh : Int} (hB : Blk w ib b v0 wh ev) : w.cell? ⟨ib, 2, none⟩ = some (.int .i64 wh) := cell_at hB 2 rfl
theorem Blk.cell3 {w : World} {ib b : Nat} {v0 ev : Value} {wh : Int} (hB : Blk w ib b v0 wh ev) : w.cell? ⟨ib, 3, none⟩ = some ev := cell_at hB 3 rfl
theorem Blk.frozen {w : World} {ib b : Nat} {v0 ev : Value} {wh : Int} (hB : Blk w ib b v0 wh ev) (i : Nat) : w.frozen? ⟨ib, i, none⟩ = false := frozen_of_row _ _ _ _ _ hB

/-- Done below 64 KiB: nothing is written. -/
def keepW (w : World) (ib : Nat) (v : Value) (len : Nat) (completes : Bool) : World := if completes then (w.setCell ⟨ib, 1, none⟩ v).setCell ⟨ib, 2, none⟩ (.int .i64 len) else w.setCell ⟨ib, 1, none⟩ v

theorem keepW_facts {N : Nat} {w : World} {ib b : Nat} {v0 v sv ev : Value} {wh : Int} {held wr : List Value} (hNi : N ≤ ib) (hB : Blk w ib b v0 wh ev) (h : Rest N w b v sv held wr) (completes : Bool) :
    Blk (keepW w ib v held.length completes) ib b v (if completes then held.length else wh) ev ∧ Rest N (keepW w ib v held.length completes) b v sv held wr ∧ Below N w (keepW w ib v held.length completes) := by
  have B1 := hB.set1 v
  have R1 := h.setIb hB 1 v
  have L1 : Below N w (w.setCell ⟨ib, 1, none⟩ v) := (Below.refl N w).setCell (p := ⟨ib, 1, none⟩) hNi v
  cases completes with
  | false => exact ⟨B1, R1, L1⟩
  | true => exact ⟨B1.set2 held.length, R1.setIb B1 2 _, L1.setCell (p := ⟨ib, 2, none⟩) hNi _⟩

set_option maxHeartbeats 400000 in
theorem Done_keep (N ib b : Nat) (wh : Int) (v0 v sv ev : Value) (held wr : List Value) (completes : Bool) (w : World) (hNi : N ≤ ib) (hB : Blk w ib b v0 wh ev) (h : Rest N w b v sv held wr) (hlt : held.length < 65536) :
    Calls Try.prog 17 #[.pointer (some ⟨ib, 0, none⟩), v, .bool completes] w fun e w' => e = .returned ev ∧ Blk w' ib b v (if completes then held.length else wh) ev ∧ Rest N w' b v sv held wr ∧ Below N w w' := by
  have F := hid (keepW_facts hNi hB h completes)
  obtain ⟨R, cap, cur, hv, -, -, hlc, hcm, -⟩ := h.own
  have hcm' := hcm
  unfold maxLen at hcm'
  have c1 := hB.cell1
  have f1 := hB.frozen 1
  have B1 := hB.set1 v
  have d1 := B1.cell1
  have d2 := B1.cell2
  have d3 := B1.cell3
  have g2 := B1.frozen 2
  have B2 := B1.set2 held.length
  have k1 := B2.cell1
  have k3 := B2.cell3
  subst hv
  clear h B1 B2 hB hcm
  have hltI : decide ((65536 : Int) ≤ (held.length : Int)) = false := by simp; omega
  clear hlt
  cases completes with
  | false =>
    go_enter Try.func17, Try.ntmps17
    go_wp2_with fail
    go_ret
    exact ⟨rfl, F.out⟩
  | true =>
    go_enter Try.func17, Try.ntmps17
    go_wp2_with fail
    go_ret
    exact ⟨rfl, F.out⟩

set_option maxHeartbeats 400000 in
theorem Done_run (N ib b : Nat) (wh : Int) (v0 v sv ev : Value) (held wr : List Value) (completes : Bool) (w : World) (hB : Blk w ib b v0 wh ev) (h : Rest N w b v sv held wr) (hge : 65536 ≤ held.length) (Post : World → Prop)
    (hF : Calls Try.prog 33 #[.pointer (some ⟨ib, 0, none⟩)] (keepW w ib v held.length completes) fun e w' => e = .returned (.tuple #[]) ∧ w'.cell? ⟨ib, 3, none⟩ = some ev ∧ Post w') :
    Calls Try.prog 17 #[.pointer (some ⟨ib, 0, none⟩), v, .bool completes] w fun e w' => e = .returned ev ∧ Post w' := by
  obtain ⟨R, cap, cur, hv, -, -, hlc, hcm, -⟩ := h.own
  have hcm' := hcm
  unfold maxLen at hcm'
  have c1 := hB.cell1
  have f1 := hB.frozen 1
  have B1 := hB.set1 v
  have d1 := B1.cell1
  have d2 := B1.cell2
  have g2 := B1.frozen 2
  have B2 := B1.set2 held.length
  have k1 := B2.cell1
  subst hv
  clear h B1 B2 hB hcm
  have hgeI : decide ((65536 : Int) ≤ (held.length : Int)) = true := by simp; omega
  clear hge
  cases completes with
  | false =>
    have HF := hid hF
    clear hF
    go_enter Try.func17, Try.ntmps17
    go_wp2_with fail
    refine HF.out.mono ?_
    rintro e w' ⟨rfl, c3, hP⟩
    have HP := hid hP
    clear hP HF
    go_wp2_with fail
    go_ret
    exact ⟨rfl, HP.out⟩
  | true =>
    have HF := hid hF
    clear hF
    go_enter Try.func17, Try.ntmps17
    go_wp2_with fail
    refine HF.out.mono ?_
    rintro e w' ⟨rfl, c3, hP⟩
    have HP := hid hP
    clear hP HF
    go_wp2_with fail
    go_ret
    exact ⟨rfl, HP.out⟩

/-- Done at 64 KiB, items complete up to n: those go out, the rest stays. -/
theorem Done_whole (N ib b n : Nat) (wh : Int) (v0 v sv ev : Value) (held wr : List Value) (completes : Bool) (w : World) (hNi : N ≤ ib) (hB : Blk w ib b v0 wh ev) (h : Rest N w b v sv held wr) (hge : 65536 ≤ held.length)
    (hw : (if completes then (held.length : Int) else wh) = n) (hn : n ≤ held.length) (hlim : wr.length + held.length ≤ 1099511627776) :
    Calls Try.prog 17 #[.pointer (some ⟨ib, 0, none⟩), v, .bool completes] w fun e w' => e = .returned ev ∧ ∃ v' sv', Blk w' ib b v' (-1) ev ∧ Rest N w' b v' sv' (held.drop n) (wr ++ held.take n) ∧ Below N w w' := by
  obtain ⟨B, R, L⟩ := keepW_facts hNi hB h completes
  refine Done_run N ib b wh v0 v sv ev held wr completes w hB h hge _ ?_
  rw [hw] at B
  refine (writeFull_whole N ib b n v sv held wr ev _ hNi B R hn hlim).mono ?_
  rintro e w' ⟨he, v', sv', B', R', L'⟩
  exact ⟨he, B'.cell3, v', sv', B', R', L.trans L'⟩

/-- Done at 64 KiB, no item complete: all that is held goes out. -/
theorem Done_part (N ib b : Nat) (wh : Int) (v0 v sv ev : Value) (held wr : List Value) (w : World) (hNi : N ≤ ib) (hB : Blk w ib b v0 wh ev) (h : Rest N w b v sv held wr) (hge : 65536 ≤ held.length)
    (hneg : wh < 0) (hlim : wr.length + held.length ≤ 1099511627776) :
    Calls Try.prog 17 #[.pointer (some ⟨ib, 0, none⟩), v, .bool false] w fun e w' => e = .returned ev ∧ ∃ v' sv', Blk w' ib b v' (-1) ev ∧ Rest N w' b v' sv' [] (wr ++ held) ∧ Below N w w' := by
  obtain ⟨B, R, L⟩ := keepW_facts hNi hB h false
  refine Done_run N ib b wh v0 v sv ev held wr false w hB h hge _ ?_
  refine (writeFull_part N ib b wh v sv held wr ev _ hNi B hneg R hlim).mono ?_
  rintro e w' ⟨he, v', sv', B', R', L'⟩
  exact ⟨he, B'.cell3, v', sv', B', R', L.trans L'⟩

set_option maxHeartbeats 400000 in
theorem MakeRoom_below (ib R len cap : Nat) (w : World) (hlt : len < 65536) :
    Calls Try.prog 23 #[.pointer (some ⟨ib, 0, none⟩), .slice (some ⟨R, 0, none⟩) len cap] w fun e w' => e = .returned (.slice (some ⟨R, 0, none⟩) len cap) ∧ w' = w := by
  have hI : decide ((len : Int) < 65536) = true := by simp; omega
  clear hlt
  go_enter Try.func23, Try.ntmps23
  go_wp2_with fail
  go_ret
  exact ⟨rfl, rfl⟩

set_option maxHeartbeats 400000 in
theorem MakeRoom_run (ib R len cap : Nat) (w : World) (hge : 65536 ≤ len) (Post : Value → World → Prop)
    (hF : Calls Try.prog 35 #[.pointer (some ⟨ib, 0, none⟩), .slice (some ⟨R, 0, none⟩) len cap] w fun e w' => ∃ x, e = .returned x ∧ Post x w') :
    Calls Try.prog 23 #[.pointer (some ⟨ib, 0, none⟩), .slice (some ⟨R, 0, none⟩) len cap] w fun e w' => ∃ x, e = .returned x ∧ Post x w' := by
  have hI : decide ((len : Int) < 65536) = false := by simp; omega
  have HF := hid hF
  clear hge hF
  go_enter Try.func23, Try.ntmps23
  go_wp2_with fail
  refine HF.out.mono ?_
  rintro e w' ⟨x, rfl, hP⟩
  have HP := hid hP
  clear hP HF
  go_wp2_with fail
  go_ret
  exact ⟨x, rfl, HP.out⟩

theorem neq34nil (w : World) : (binOp .neq 34 .nilIface .nilIface).run Try.prog w = .ok (.bool false) w := by kernel_rfl

set_option maxHeartbeats 400000 in
theorem makeRoom_run (N ib b : Nat) (wh : Int) (v0 v sv : Value) (held wr : List Value) (w : World) (hB : Blk w ib b v0 wh .nilIface) (h : Rest N w b v sv held wr) (Post : Value → World → Prop)
    (hF : Calls Try.prog 33 #[.pointer (some ⟨ib, 0, none⟩)] (w.setCell ⟨ib, 1, none⟩ v) fun e w' => e = .returned (.tuple #[]) ∧ ∃ x, w'.cell? ⟨ib, 1, none⟩ = some x ∧ Post x w') :
    Calls Try.prog 35 #[.pointer (some ⟨ib, 0, none⟩), v] w fun e w' => ∃ x, e = .returned x ∧ Post x w' := by
  obtain ⟨R, cap, cur, hv, -, -, hlc, hcm, -⟩ := h.own
  have c1 := hB.cell1
  have f1 := hB.frozen 1
  have B1 := hB.set1 v
  have d3 := B1.cell3
  subst hv
  clear h B1 hB hcm
  have nn := neq34nil
  have HF := hid hF
  clear hF
  go_enter Try.func35, Try.ntmps35
  go_wp2_with fail
  refine HF.out.mono ?_
  rintro e w' ⟨rfl, x, cx, hP⟩
  have HP := hid hP
  clear hP HF
  go_wp2_with fail
  go_ret
  exact ⟨x, rfl, HP.out⟩

end Go.Proofs.Qxb6612279a
