/- (*bytes.Buffer).grow and Write with the exact frame (seat b6612279a); the steps after the kit's shelf, turned to this program's numbers. -/
import Derived.Test.Qxb6612279aSink
import Derived.Deep.Draws
namespace Go.Proofs.Qxb6612279a
open Go.RowKit

theorem growSlice_nil (n : Nat) (w : World) (hn : 1 ≤ n) (hlim : n ≤ 140737488355328) :
    Calls Try.prog 63 #[.slice none 0 0, .int .i64 n] w fun e w' => ∃ cap2 cells, e = .returned (.slice (some ⟨w.heap.size, 0, none⟩) 0 cap2) ∧ w'.heap[w.heap.size]? = some (.cells cells 5 (0, 0)) ∧
      cells.size = cap2 ∧ n ≤ cap2 ∧ cap2 ≤ maxLen ∧ Below w.heap.size w w' := by
  obtain ⟨i0, hi, hz0, hz1, hz2⟩ := info_parts info5
  have happ := Lib.run_append_nil_zeros (P := Try.prog) w 22 3 22 5 i0 (.int .u8 0) .i64 .i64 Try.underlying22 Try.underlying3 hi hz0 n (by omega) (by omega) (by omega) (by rw [hz2]; omega)
  generalize hcap : grownCap w n 0 5 = cap2 at happ
  have hcapge : n ≤ cap2 := by rw [← hcap]; exact grownCap_ge w _ 0 5
  have hcaple : cap2 ≤ maxLen := by rw [← hcap]; exact grownCap_le_maxLen w _ 0 5 (by unfold maxLen; omega)
  generalize hZ : (Builtin.zeroCells (Value.int .u8 0).cells n ++ Builtin.zeroCells (Value.int .u8 0).cells (cap2 - n)) = Z at happ
  have hZs : Z.size = cap2 := by rw [← hZ]; simp [size_zeroCells, Value.cells]; omega
  clear hcap hZ
  have hcopy := run_copy_nil (P := Try.prog) (w.alloc (.cells Z 5)).drew 22 22 3 5 ⟨w.heap.size, 0, none⟩ n cap2 Try.underlying22 (by rw [hi]; rfl)
  go_enter_defers Try.func63, Try.ntmps63
  go_wp2_with (at_builtin; refine Lib.wpList_append_run _ rfl _ _ _ _ rfl _ _ rfl rfl _ _ happ ?_)
  refine leaves_cons (f := 64) (args := #[]) (by simp) (by kernel_rfl) ?_
  refine (catch_idle _).mono ?_
  rintro e u' w'' ⟨rfl, rfl, rfl⟩
  refine ⟨_, results_tmp rfl _ _ _, ?_⟩
  exact ⟨cap2, Z, rfl, heap_alloc_new w _, hZs, hcapge, hcaple, ⟨rfl, rfl, rfl, by simp, fun k hk => Below.heap_alloc w _ k hk⟩⟩

theorem grownBy_trans {a w w' : World} {row : Option Nat} (h : a.grownBy w row) (k : w.grownBy w' row) : a.grownBy w' row :=
  ⟨k.os.trans h.os, k.tape.trans h.tape, k.output.trans h.output, Nat.le_trans h.size k.size, fun i hi hr => (k.block i (Nat.lt_of_lt_of_le hi h.size) hr).trans (h.block i hi hr)⟩
theorem grownBy_refl (w : World) (row : Option Nat) : w.grownBy w row := ⟨rfl, rfl, rfl, Nat.le_refl _, fun _ _ _ => rfl⟩
theorem grownBy_setB {a w : World} {b : Nat} (h : a.grownBy w (some b)) (i : Nat) (v : Value) : a.grownBy (w.setCell ⟨b, i, none⟩ v) (some b) :=
  grownBy_trans h ⟨rfl, rfl, rfl, by simp [World.setCell], fun k _ hr => Below.heap_setCell _ _ _ _ (fun e => hr (by rw [e]))⟩
theorem grownBy_below {a w w' : World} {row : Option Nat} (h : a.grownBy w row) (hb : Below w.heap.size w w') : a.grownBy w' row :=
  grownBy_trans h ⟨hb.os, hb.tape, hb.output, hb.size, fun i hi _ => hb.block i hi⟩
theorem grownBy_drew (w : World) (n : Nat) (row : Option Nat) : w.grownBy (w.drewN n) row := ⟨rfl, rfl, rfl, Nat.le_refl _, fun _ _ _ => rfl⟩

/-- What grow leaves: the struct's slice has n places more, in a new row that begins as bs. -/
def Grew (w w' : World) (b l n : Nat) (bs : List Value) : Prop :=
  ∃ g cap cur lr, w'.heap[b]? = some (.cells #[.slice (some ⟨g, 0, none⟩) (l + n) cap, .int .i64 0, .int .i8 lr] 57 (0, 0)) ∧ w'.heap[g]? = some (.cells cur 5 (0, 0)) ∧ w.heap.size ≤ g ∧
    cur.size = cap ∧ cur.toList.take l = bs ∧ l + n ≤ cap ∧ cap ≤ maxLen ∧ w.grownBy w' (some b)

theorem grew_end {w w2 : World} {b l n cap2 : Nat} {lr : Int} {v0 v1 : Value} {cells : Array Value} {bs : List Value} {N : Nat}
    (hb : w2.heap[b]? = some (.cells #[v0, .int .i64 0, .int .i8 lr] 57 (0, 0))) (hN : w2.heap[N]? = some (.cells cells 5 (0, 0))) (hle : w.heap.size ≤ N) (hNb : N ≠ b)
    (hcsz : cells.size = cap2) (htk : cells.toList.take l = bs) (hcap2 : l + n ≤ cap2) (hcm2 : cap2 ≤ maxLen) (hg : w.grownBy w2 (some b)) :
    Grew w (((w2.setCell ⟨b, 0, none⟩ v1).setCell ⟨b, 1, none⟩ (.int .i64 0)).setCell ⟨b, 0, none⟩ (.slice (some ⟨N, 0, none⟩) (l + n) cap2)) b l n bs := by
  refine ⟨N, cap2, cells, lr, ?_, ?_, hle, hcsz, htk, hcap2, hcm2, grownBy_setB (grownBy_setB (grownBy_setB hg 0 _) 1 _) 0 _⟩
  · have h := heap_setCell_same _ b 0 _ _ (.slice (some ⟨N, 0, none⟩) (l + n) cap2) (heap_setCell_same _ b 1 _ _ (.int .i64 0) (heap_setCell_same w2 b 0 _ _ v1 hb))
    simpa using h
  · rw [Below.heap_setCell _ _ _ _ hNb, Below.heap_setCell _ _ _ _ hNb, Below.heap_setCell _ _ _ _ hNb]
    exact hN

set_option maxHeartbeats 2000000 in
theorem grow_row (b g l cap n : Nat) (lr : Int) (cur : Array Value) (bs : List Value) (w : World)
    (hbk : w.heap[b]? = some (.cells #[.slice (some ⟨g, 0, none⟩) l cap, .int .i64 0, .int .i8 lr] 57 (0, 0)))
    (hg : w.heap[g]? = some (.cells cur 5 (0, 0))) (hlc : l ≤ cap) (hcm : cap ≤ maxLen) (hcs : cur.size = cap) (htake : cur.toList.take l = bs)
    (h1 : ∀ v ∈ bs, v.oneCell' = true) (hl : 1 ≤ l) (hn : 1 ≤ n) (hroom : cap - l < n) (hlim : l + n ≤ 140737488355328) :
    Calls Try.prog 61 #[.pointer (some ⟨b, 0, none⟩), .int .i64 n] w fun e w' => e = .returned (.int .i64 l) ∧ Grew w w' b l n bs := by
  have hnil : ∀ W, (binOp .eql 22 (.slice (some ⟨g, 0, none⟩) l cap) (.slice none 0 0)).run Try.prog W = .ok (.bool false) W := fun W => Lib.run_eql_slice_nil W _ _ (some ⟨g, 0, none⟩) l cap 0 0 Try.underlying22
  have hcm' := hcm
  unfold maxLen at hcm'
  have hl0 : ((l : Int) == 0) = false := by simp; omega
  go_enter Try.func61, Try.ntmps61
  go_wp2_with fail
  refine (Len_any b l cap _ _ (cell_at hbk 0 rfl) (cell_at hbk 1 rfl) (by omega)).mono ?_
  rintro e W0 ⟨rfl, hW0⟩
  have hbk0 : W0.heap[b]? = some (.cells #[.slice (some ⟨g, 0, none⟩) l cap, .int .i64 0, .int .i8 lr] 57 (0, 0)) := by rw [hW0]; exact hbk
  have hg0 : W0.heap[g]? = some (.cells cur 5 (0, 0)) := by rw [hW0]; exact hg
  have c0 : W0.cell? ⟨b, 0, none⟩ = some (.slice (some ⟨g, 0, none⟩) l cap) := cell_at hbk0 0 rfl
  have c1 : W0.cell? ⟨b, 1, none⟩ = some (.int .i64 0) := cell_at hbk0 1 rfl
  have f0 : W0.frozen? ⟨b, 0, none⟩ = false := frozen_of_row _ _ _ _ _ hbk0
  have f1 : W0.frozen? ⟨b, 1, none⟩ = false := frozen_of_row _ _ _ _ _ hbk0
  have HG0 : Hid (w.grownBy W0 (some b)) := by rw [hW0]; exact grownBy_drew w 1 _
  have HS0 : Hid (W0.heap.size = w.heap.size) := by rw [hW0]; exact rfl
  clear hW0
  go_wp2_with (go_at_call 60; refine (tryGrow_none b l cap n _ _ c0 hlc hcm hroom).mono ?_; rintro e w' ⟨rfl, rfl⟩)
  have hbW := lt_of_heap hbk0
  have h1' : ∀ v ∈ cur.toList.take l, v.oneCell' = true := by rw [htake]; exact h1
  have hwn : IntKind.i64.wrap (n : Int) = n := by rw [IntKind.wrap_i64]; omega
  have hc2 : cap ≤ 140737488355328 := by omega
  go_region_with (
      go_at_call 63
      refine (growSlice_row g l cap n cur _ ?_ hcs hlc hn hlim hc2 h1').mono ?_
      exact hg0
      rintro e w2 ⟨cap2, cells, rfl, hN, hcsz, htk, hcap2, hcm2, hbel⟩
      have hbk2 : w2.heap[b]? = some (.cells #[.slice (some ⟨g, 0, none⟩) l cap, .int .i64 0, .int .i8 lr] 57 (0, 0)) := (hbel.block b hbW).trans hbk0
      have d0 : w2.cell? ⟨b, 0, none⟩ = some (.slice (some ⟨g, 0, none⟩) l cap) := cell_at hbk2 0 rfl
      have d1 : w2.cell? ⟨b, 1, none⟩ = some (.int .i64 0) := cell_at hbk2 1 rfl
      have e0 : w2.frozen? ⟨b, 0, none⟩ = false := frozen_of_row _ _ _ _ _ hbk2
      have e1 : w2.frozen? ⟨b, 1, none⟩ = false := frozen_of_row _ _ _ _ _ hbk2)
  all_goals (
    go_wp2
    go_ret
    exact ⟨rfl, grew_end hbk2 hN (Nat.le_of_eq HS0.out.symm) (by show w'.heap.size ≠ b; omega) hcsz (htk.trans htake) hcap2 hcm2 (grownBy_below (grownBy_trans HG0.out (grownBy_drew _ 1 _)) hbel)⟩)

set_option maxHeartbeats 2000000 in
theorem grow_nil_big (b n : Nat) (lr : Int) (w : World)
    (hbk : w.heap[b]? = some (.cells #[.slice none 0 0, .int .i64 0, .int .i8 lr] 57 (0, 0))) (h64 : 64 < n) (hlim : n ≤ 140737488355328) :
    Calls Try.prog 61 #[.pointer (some ⟨b, 0, none⟩), .int .i64 n] w fun e w' => e = .returned (.int .i64 0) ∧ Grew w w' b 0 n [] := by
  have hnil : ∀ W, (binOp .eql 22 (.slice none 0 0) (.slice none 0 0)).run Try.prog W = .ok (.bool true) W := fun W => Lib.run_eql_slice_nil W _ _ none 0 0 0 0 Try.underlying22
  go_enter Try.func61, Try.ntmps61
  go_wp2_with fail
  refine (Len_any b 0 0 none _ (cell_at hbk 0 rfl) (cell_at hbk 1 rfl) (by omega)).mono ?_
  rintro e W0 ⟨rfl, hW0⟩
  have hbk0 : W0.heap[b]? = some (.cells #[.slice none 0 0, .int .i64 0, .int .i8 lr] 57 (0, 0)) := by rw [hW0]; exact hbk
  have c0 : W0.cell? ⟨b, 0, none⟩ = some (.slice none 0 0) := cell_at hbk0 0 rfl
  have c1 : W0.cell? ⟨b, 1, none⟩ = some (.int .i64 0) := cell_at hbk0 1 rfl
  have f0 : W0.frozen? ⟨b, 0, none⟩ = false := frozen_of_row _ _ _ _ _ hbk0
  have f1 : W0.frozen? ⟨b, 1, none⟩ = false := frozen_of_row _ _ _ _ _ hbk0
  have HG0 : Hid (w.grownBy W0 (some b)) := by rw [hW0]; exact grownBy_drew w 1 _
  have HS0 : Hid (W0.heap.size = w.heap.size) := by rw [hW0]; exact rfl
  clear hW0
  go_wp2_with (go_at_call 60; refine (tryGrow_none b 0 0 n _ _ c0 (Nat.le_refl _) (Nat.zero_le _) (by omega)).mono ?_; rintro e w' ⟨rfl, rfl⟩)
  have hbW := lt_of_heap hbk0
  have hwn : IntKind.i64.wrap (n : Int) = n := by rw [IntKind.wrap_i64]; omega
  go_region_with (
      go_at_call 63
      refine (growSlice_nil n _ (by omega) hlim).mono ?_
      rintro e w2 ⟨cap2, cells, rfl, hN, hcsz, hcap2, hcm2, hbel⟩
      have hbk2 : w2.heap[b]? = some (.cells #[.slice none 0 0, .int .i64 0, .int .i8 lr] 57 (0, 0)) := (hbel.block b hbW).trans hbk0
      have d0 : w2.cell? ⟨b, 0, none⟩ = some (.slice none 0 0) := cell_at hbk2 0 rfl
      have d1 : w2.cell? ⟨b, 1, none⟩ = some (.int .i64 0) := cell_at hbk2 1 rfl
      have e0 : w2.frozen? ⟨b, 0, none⟩ = false := frozen_of_row _ _ _ _ _ hbk2
      have e1 : w2.frozen? ⟨b, 1, none⟩ = false := frozen_of_row _ _ _ _ _ hbk2)
  all_goals (
    go_wp2
    go_ret
    have R := grew_end (l := 0) (n := n) (bs := []) (v1 := .slice (some ⟨w'.heap.size, 0, none⟩) 0 cap2) hbk2 hN (Nat.le_of_eq HS0.out.symm) (by show w'.heap.size ≠ b; omega) hcsz (by simp) (by omega) hcm2 (grownBy_below (grownBy_trans HG0.out (grownBy_drew _ 1 _)) hbel)
    rw [Nat.zero_add] at R
    exact ⟨rfl, R⟩)

set_option maxHeartbeats 2000000 in
theorem grow_nil_small (b n : Nat) (lr : Int) (w : World)
    (hbk : w.heap[b]? = some (.cells #[.slice none 0 0, .int .i64 0, .int .i8 lr] 57 (0, 0))) (hn : 1 ≤ n) (h64 : n ≤ 64) :
    Calls Try.prog 61 #[.pointer (some ⟨b, 0, none⟩), .int .i64 n] w fun e w' => e = .returned (.int .i64 0) ∧ Grew w w' b 0 n [] := by
  obtain ⟨i0, hi, hz0, hz1, hz2⟩ := info_parts info5
  obtain ⟨M, hM⟩ : ∃ M, M = madeCells (Value.int .u8 0).cells ((64 : Int).toNat * i0.size) := ⟨_, rfl⟩
  have hMs : M.size = 64 := by rw [hM, size_madeCells, hz1]; rfl
  have hmk : ∀ W : World, (Instr.makeSlice 22 (.int .i64 (n : Int)) (.int .i64 64)).run Try.prog W = .ok (.slice (some ⟨W.heap.size, 0, none⟩) n 64) (W.alloc (.cells M 5)) := fun W => by
    have h := run_makeSlice (P := Try.prog) W 22 5 i0 (.int .u8 0) Try.underlying22 hi hz0 .i64 .i64 (n : Int) 64 (by omega) (by omega) (by rw [hz1]; decide) (by rw [hz2]; decide) (by decide)
    rw [← hM] at h
    simpa using h
  clear hM
  have hnil : ∀ W, (binOp .eql 22 (.slice none 0 0) (.slice none 0 0)).run Try.prog W = .ok (.bool true) W := fun W => Lib.run_eql_slice_nil W _ _ none 0 0 0 0 Try.underlying22
  go_enter Try.func61, Try.ntmps61
  go_wp2_with fail
  refine (Len_any b 0 0 none _ (cell_at hbk 0 rfl) (cell_at hbk 1 rfl) (by omega)).mono ?_
  rintro e W0 ⟨rfl, hW0⟩
  have hbk0 : W0.heap[b]? = some (.cells #[.slice none 0 0, .int .i64 0, .int .i8 lr] 57 (0, 0)) := by rw [hW0]; exact hbk
  have c0 : W0.cell? ⟨b, 0, none⟩ = some (.slice none 0 0) := cell_at hbk0 0 rfl
  have c1 : W0.cell? ⟨b, 1, none⟩ = some (.int .i64 0) := cell_at hbk0 1 rfl
  have f0 : W0.frozen? ⟨b, 0, none⟩ = false := frozen_of_row _ _ _ _ _ hbk0
  have hbW0 := lt_of_heap hbk0
  have c0a : ∀ o, (W0.alloc o).cell? ⟨b, 0, none⟩ = some (.slice none 0 0) := fun o => (World.cell?_of_block (a := ⟨b, 0, none⟩) (Below.heap_alloc W0 o b hbW0)).trans c0
  have f0a : ∀ o, (W0.alloc o).frozen? ⟨b, 0, none⟩ = false := fun o => (World.frozen?_of_block (a := ⟨b, 0, none⟩) (Below.heap_alloc W0 o b hbW0)).trans f0
  have HG0 : Hid (w.grownBy W0 (some b)) := by rw [hW0]; exact grownBy_drew w 1 _
  have HS0 : Hid (W0.heap.size = w.heap.size) := by rw [hW0]; exact rfl
  clear hW0
  go_wp2_with (go_at_call 60; refine (tryGrow_none b 0 0 n _ _ c0 (Nat.le_refl _) (Nat.zero_le _) (by omega)).mono ?_; rintro e w' ⟨rfl, rfl⟩)
  go_ret
  have hsz : (w'.setCell ⟨b, 0, none⟩ (.slice (some ⟨w'.heap.size, 0, none⟩) n 64)).heap.size = w'.heap.size := by simp [World.setCell]
  refine ⟨rfl, w'.heap.size, 64, M, lr, ?_, ?_, Nat.le_of_eq HS0.out.symm, hMs, by simp, by omega, by unfold maxLen; omega, ?_⟩
  · rw [Below.heap_alloc _ _ b (by rw [hsz]; exact hbW0), Nat.zero_add]
    have h := heap_setCell_same w' b 0 _ _ (.slice (some ⟨w'.heap.size, 0, none⟩) n 64) hbk0
    simpa using h
  · have h := heap_alloc_new (w'.setCell ⟨b, 0, none⟩ (.slice (some ⟨w'.heap.size, 0, none⟩) n 64)) (.cells M 5)
    rw [hsz] at h
    exact h
  · exact grownBy_trans (grownBy_setB HG0.out 0 _) (World.grownBy_alloc _ _ _)

end Go.Proofs.Qxb6612279a
