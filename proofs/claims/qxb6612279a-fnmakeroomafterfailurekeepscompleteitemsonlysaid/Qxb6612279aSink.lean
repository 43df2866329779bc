/- The walks of bytes.Buffer's writing, with the exact frame (seat b6612279a). The steps after the kit's shelf (Derived/Shelf/Bytes), turned to this program's numbers. -/
import Derived.Test.Qxb6612279aRunLaw
import Derived.Lib.AppendZeros
import Derived.Lib.SliceRun
import Derived.Lib.IfaceNeq
import Derived.Defers
import Derived.Recover
import Derived.Deep.RegionWith
import Derived.BigQuiet
import Derived.BigRegion
import Derived.BigCall
import Derived.BigGuard
namespace Go.Proofs.Qxb6612279a
open Go.RowKit

theorem cell_at {w : World} {b : Nat} {cs : Array Value} {t : TypeId} (h : w.heap[b]? = some (.cells cs t (0, 0))) (i : Nat) {v : Value} (hv : cs[i]? = some v) : w.cell? ⟨b, i, none⟩ = some v := by
  rw [cell_of_row w b i cs t (0, 0) h]; exact hv
theorem lt_of_heap {w : World} {b : Nat} {o : Obj} (h : w.heap[b]? = some o) : b < w.heap.size := (Array.getElem?_eq_some_iff.1 h).1

set_option maxHeartbeats 400000 in
theorem Len_any (b l cap : Nat) (ao : Option Addr) (w : World) (c0 : w.cell? ⟨b, 0, none⟩ = some (.slice ao l cap)) (c1 : w.cell? ⟨b, 1, none⟩ = some (.int .i64 0)) (hl : l ≤ 9223372036854775807) :
    Calls Try.prog 62 #[.pointer (some ⟨b, 0, none⟩)] w fun e w' => e = .returned (.int .i64 l) ∧ w' = w.drewN 1 := by
  go_enter Try.func62, Try.ntmps62
  go_wp2
  go_region
  all_goals (go_wp2; go_ret; exact ⟨by simp, rfl⟩)

set_option maxHeartbeats 400000 in
theorem tryGrow_room (b l cap n : Nat) (ao : Option Addr) (w : World) (c0 : w.cell? ⟨b, 0, none⟩ = some (.slice ao l cap)) (f0 : w.frozen? ⟨b, 0, none⟩ = false)
    (hlc : l ≤ cap) (hcap : cap ≤ maxLen) (hn : n ≤ cap - l) :
    Calls Try.prog 60 #[.pointer (some ⟨b, 0, none⟩), .int .i64 n] w fun e w' => e = .returned (.tuple #[.int .i64 l, .bool true]) ∧ w' = w.setCell ⟨b, 0, none⟩ (.slice ao (l + n) cap) := by
  unfold maxLen at hcap
  go_enter Try.func60, Try.ntmps60
  go_wp2
  go_ret2
  exact ⟨rfl, rfl⟩

set_option maxHeartbeats 400000 in
theorem tryGrow_none (b l cap n : Nat) (ao : Option Addr) (w : World) (c0 : w.cell? ⟨b, 0, none⟩ = some (.slice ao l cap))
    (hlc : l ≤ cap) (hcap : cap ≤ maxLen) (hn : cap - l < n) :
    Calls Try.prog 60 #[.pointer (some ⟨b, 0, none⟩), .int .i64 n] w fun e w' => e = .returned (.tuple #[.int .i64 0, .bool false]) ∧ w' = w := by
  unfold maxLen at hcap
  go_enter Try.func60, Try.ntmps60
  go_wp2
  go_ret2
  exact ⟨rfl, rfl⟩

theorem neq20 (w : World) : (binOp .neq 20 .nilIface .nilIface).run Try.prog w = .ok (.bool false) w := by kernel_rfl

theorem catch_idle (w : World) : CallsD Try.prog 64 #[] .returning w fun e u' w' => e = .returned (.tuple #[]) ∧ u' = .returning ∧ w' = w := by
  refine callsD_of_wpS Try.func64 rfl fun c₀ cs hu => ?_
  have hnn := neq20
  apply wpS_seq
  apply wpS_region
  simp [wpOpsS, go_sem, recoverD, hu, hnn, Try.ntmps64, Exit.thenS]
  refine wpS_cond (t := false) (by simp [Act.eval, Array.replicate]) ?_
  simp only [Bool.false_eq_true, if_false]
  refine wpS_of_wp (wp_skip ?_)
  cases c₀
  simp_all [bodyPostS, results, Try.results64]

/-- bytes.growSlice of a slice at the head of a row: a new row, number 'w.heap.size', that begins with its l cells and has room for n more; whatever lay below is as it was. -/
theorem growSlice_row (g l c n : Nat) (cur : Array Value) (w : World) (hg : w.heap[g]? = some (.cells cur 5 (0, 0))) (hcs : cur.size = c) (hlc : l ≤ c) (hn : 1 ≤ n)
    (hlim : l + n ≤ 140737488355328) (hc2 : c ≤ 140737488355328) (h1 : ∀ v ∈ cur.toList.take l, v.oneCell' = true) :
    Calls Try.prog 63 #[.slice (some ⟨g, 0, none⟩) l c, .int .i64 n] w fun e w' => ∃ cap2 cells, e = .returned (.slice (some ⟨w.heap.size, 0, none⟩) l cap2) ∧ w'.heap[w.heap.size]? = some (.cells cells 5 (0, 0)) ∧
      cells.size = cap2 ∧ cells.toList.take l = cur.toList.take l ∧ l + n ≤ cap2 ∧ cap2 ≤ maxLen ∧ Below w.heap.size w w' := by
  obtain ⟨i0, hi, hz0, hz1, hz2⟩ := info_parts info5
  obtain ⟨C, hC, hC0, hCl⟩ : ∃ C : Nat, C = (if l + n < 2 * c then 2 * c else l + n) ∧ l + n ≤ C ∧ C ≤ 281474976710656 := ⟨_, rfl, by split <;> omega, by split <;> omega⟩
  have happ := Lib.run_append_nil_zeros (P := Try.prog) w 22 3 22 5 i0 (.int .u8 0) .i64 .i64 Try.underlying22 Try.underlying3 hi hz0 C (by omega) (by omega) (by omega) (by rw [hz2]; omega)
  generalize hcap : grownCap w C 0 5 = cap2 at happ
  have hcapge : C ≤ cap2 := by rw [← hcap]; exact grownCap_ge w _ 0 5
  have hcaple : cap2 ≤ maxLen := by rw [← hcap]; exact grownCap_le_maxLen w _ 0 5 (by unfold maxLen; omega)
  generalize hZ : (Builtin.zeroCells (Value.int .u8 0).cells C ++ Builtin.zeroCells (Value.int .u8 0).cells (cap2 - C)) = Z at happ
  have hZs : Z.size = cap2 := by rw [← hZ]; simp [size_zeroCells, Value.cells]; omega
  clear hcap hZ
  have hgl := lt_of_heap hg
  have hg1 : (w.alloc (.cells Z 5)).drew.heap[g]? = some (.cells cur 5 (0, 0)) := by show (w.alloc (.cells Z 5)).heap[g]? = _; rw [Below.heap_alloc w _ g hgl]; exact hg
  have hxl : (cur.toList.take l).length = l := by rw [List.length_take, Array.length_toList]; omega
  have hsrc : ∀ j v, (cur.toList.take l)[j]? = some v → (w.alloc (.cells Z 5)).drew.cell? ((⟨g, 0, none⟩ : Addr).add j) = some v := by
    intro j v hj
    have hadd : (⟨g, 0, none⟩ : Addr).add j = ⟨g, j, none⟩ := by unfold Addr.add; split <;> simp_all
    rw [hadd, cell_of_row _ _ _ _ _ _ hg1]
    rw [List.getElem?_take] at hj
    split at hj
    · simpa using hj
    · cases hj
  have hcopy := run_copy_row (P := Try.prog) (w.alloc (.cells Z 5)).drew 22 22 3 5 w.heap.size 0 C cap2 ⟨g, 0, none⟩ l c Z 5 (cur.toList.take l) Try.underlying22 size5 (heap_alloc_new w _) (by rw [hxl]; exact (Nat.min_eq_left (by omega)).symm) hsrc (by rw [hxl]; omega) h1
  rw [hxl] at hcopy
  obtain ⟨Y, hY⟩ : ∃ Y : Array Value, Y = (cur.toList.take l ++ Z.toList.drop l).toArray := ⟨_, rfl⟩
  have hYl : Y.toList = cur.toList.take l ++ Z.toList.drop l := by rw [hY]
  have hYs : Y.size = cap2 := by
    have : Y.toList.length = cap2 := by rw [hYl, List.length_append, hxl, List.length_drop, Array.length_toList, hZs]; omega
    simpa using this
  have hend : ∃ cap2' cells, Ending.returned (.slice (some ⟨w.heap.size, 0, none⟩) l cap2) = .returned (.slice (some ⟨w.heap.size, 0, none⟩) l cap2') ∧ ((w.alloc (.cells Z 5)).drew.setRow w.heap.size Y).heap[w.heap.size]? = some (.cells cells 5 (0, 0)) ∧
      cells.size = cap2' ∧ cells.toList.take l = cur.toList.take l ∧ l + n ≤ cap2' ∧ cap2' ≤ maxLen ∧ Below w.heap.size w ((w.alloc (.cells Z 5)).drew.setRow w.heap.size Y) := by
    refine ⟨cap2, Y, rfl, setRow_heap _ _ Z Y 5 (0, 0) (heap_alloc_new w _), hYs, ?_, by omega, hcaple, ?_⟩
    · rw [hYl, List.take_append_of_le_length (by rw [hxl]; exact Nat.le_refl _), List.take_of_length_le (by rw [hxl]; exact Nat.le_refl _)]
    · exact ⟨rfl, rfl, rfl, by simp, fun k hk => by rw [setRow_other _ _ _ _ (by omega)]; exact Below.heap_alloc w _ k hk⟩
  rw [hY] at hend
  have HEND := hid hend
  clear hend hYl hYs hY
  by_cases h2 : l + n < 2 * c
  · rw [if_pos h2] at hC
    subst hC
    rw [show (((2 * c : Nat)) : Int) = 2 * (c : Int) by omega] at happ
    clear hC0
    go_enter_defers Try.func63, Try.ntmps63
    go_wp2_with (at_builtin; refine Lib.wpList_append_run _ rfl _ _ _ _ rfl _ _ rfl rfl _ _ happ ?_)
    refine leaves_cons (f := 64) (args := #[]) (by simp) (by kernel_rfl) ?_
    refine (catch_idle _).mono ?_
    rintro e u' w'' ⟨rfl, rfl, rfl⟩
    refine ⟨_, results_tmp rfl _ _ _, ?_⟩
    exact HEND.out
  · rw [if_neg h2] at hC
    subst hC
    rw [show (((l + n : Nat)) : Int) = (l : Int) + (n : Int) by omega] at happ
    clear hC0
    go_enter_defers Try.func63, Try.ntmps63
    go_wp2_with (at_builtin; refine Lib.wpList_append_run _ rfl _ _ _ _ rfl _ _ rfl rfl _ _ happ ?_)
    refine leaves_cons (f := 64) (args := #[]) (by simp) (by kernel_rfl) ?_
    refine (catch_idle _).mono ?_
    rintro e u' w'' ⟨rfl, rfl, rfl⟩
    refine ⟨_, results_tmp rfl _ _ _, ?_⟩
    exact HEND.out

end Go.Proofs.Qxb6612279a
