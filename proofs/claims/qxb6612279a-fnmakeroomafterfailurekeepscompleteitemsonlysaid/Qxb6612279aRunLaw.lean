/- The walk of the law FnRunLenIsLongestKeptPrefix (seat b6612279a). -/
import Derived.Test.Qxb6612279aRunLen
import Derived.Laws.CopyOwn
import Derived.Deep.OwnRows
namespace Go.Proofs.Qxb6612279a
open Go.RowKit

set_option maxHeartbeats 400000 in
theorem zzBytes11 (v : Option Addr) (len cap : Nat) (cs : Array Value) (w : World) (hs : len ≤ maxLen) :
    Calls Try.prog 11 #[.slice v len cap, .agg cs] w fun e w' => e = .returned (.bool (decide (len ≤ 1048576))) ∧ w' = w.alloc (.cells cs 23) := by
  unfold maxLen at hs
  by_cases h : len ≤ 1048576
  · have hd : decide (len ≤ 1048576) = true := by simpa using h
    rw [hd]
    clear hd
    go_enter Try.func11, Try.ntmps11
    go_wp2
    go_ret
    exact ⟨rfl, rfl⟩
  · have hd : decide (len ≤ 1048576) = false := by simpa using h
    rw [hd]
    clear hd
    go_enter Try.func11, Try.ntmps11
    go_wp2
    go_ret
    exact ⟨rfl, rfl⟩

theorem neq22 (w : World) (a : Option Addr) (n c n' c' : Nat) : (binOp .neq 22 (.slice a n c) (.slice none n' c')).run Try.prog w = .ok (.bool (!a.isNone)) w :=
  run_neq_slice_nil_any w _ _ a n c n' c' Try.underlying22

theorem isRun_zero {ks : Nat → Bool} {z : Nat → Nat} {r : Nat} (h : IsRun ks z 0 r) : r = 0 := Nat.le_zero.mp h.1

theorem info23 {cs : Array Value} (hcs : cs.size = 256) : (Try.prog.info? 23).map (·.size) = some cs.size := by rw [hcs]; kernel_rfl

set_option maxHeartbeats 400000 in
theorem law3_nil (cs : Array Value) (ks : Nat → Bool) (w : World) (hcs : cs.size = 256) :
    Calls Try.prog 3 #[.slice none 0 0, .agg cs] w fun e w' => e = .returned (.bool true) ∧ Below w.heap.size w w' := by
  have hinfo := info23 hcs
  clear hcs
  have hg := heap_alloc_new w (.cells cs 23)
  have hg2 := heap_alloc2_old w (.cells cs 23) (.cells cs 23)
  have q := neq22
  go_enter Try.func3, Try.ntmps3
  go_wp2_with (refine wpList_load_row rfl 23 _ rfl w.heap.size rfl 23 cs (0,0) _ hg Try.underlying23 rfl hinfo ?_)
  refine (zzBytes11 none 0 0 cs _ (Nat.zero_le _)).mono ?_
  rintro e w' ⟨rfl, rfl⟩
  go_wp2_with (refine wpList_load_row rfl 23 _ rfl w.heap.size rfl 23 cs (0,0) _ hg2 Try.underlying23 rfl hinfo ?_)
  refine (ZZRunLenIn_nil cs ks (fun _ => 0) _).mono ?_
  rintro e w' ⟨⟨r, rfl, hr⟩, rfl⟩
  obtain rfl := isRun_zero hr
  clear hr
  go_wp2_with fail
  go_loop [7] (fun j => j = .int .i64 0) (fun _ => 0)
  case atStart => rfl
  case round =>
    subst hrel
    go_wp2
    go_ret
    exact ⟨rfl, (((Below.refl _ _).alloc (Nat.le_refl _) _).alloc (by simp) _).alloc (by simp; omega) _⟩

set_option maxHeartbeats 400000 in
theorem law3_far (v : Option Addr) (len cap : Nat) (cs : Array Value) (w : World) (hcs : cs.size = 256) (hs : len ≤ maxLen) (hl : ¬ len ≤ 1048576) :
    Calls Try.prog 3 #[.slice v len cap, .agg cs] w fun e w' => e = .returned (.bool true) ∧ Below w.heap.size w w' := by
  have hinfo := info23 hcs
  clear hcs
  have hg := heap_alloc_new w (.cells cs 23)
  have z := zzBytes11 v len cap cs (w.alloc (.cells cs 23)) hs
  rw [show decide (len ≤ 1048576) = false by simpa using hl] at z
  go_enter Try.func3, Try.ntmps3
  go_wp2_with (refine wpList_load_row rfl 23 _ rfl w.heap.size rfl 23 cs (0,0) _ hg Try.underlying23 rfl hinfo ?_)
  refine z.mono ?_
  rintro e w' ⟨rfl, rfl⟩
  go_wp2_with fail
  go_ret
  exact ⟨rfl, ((Below.refl _ _).alloc (Nat.le_refl _) _).alloc (by simp) _⟩

/-- The cells of the bytes z. -/
def cellsOf (z : Nat → Nat) (n : Nat) : List Value := (List.range n).map fun i => Value.int .u8 (z i : Int)
theorem length_cellsOf (z : Nat → Nat) (n : Nat) : (cellsOf z n).length = n := by simp [cellsOf]
theorem get_cellsOf {z : Nat → Nat} {n j : Nat} {v : Value} (h : (cellsOf z n)[j]? = some v) : j < n ∧ v = .int .u8 (z j : Int) := by
  have hj : j < n := by
    have := (List.getElem?_eq_some_iff.1 h).1
    rwa [length_cellsOf] at this
  refine ⟨hj, ?_⟩
  simp [cellsOf, List.getElem?_map, List.getElem?_range hj] at h
  exact h.symm
theorem cellsOf_get (z : Nat → Nat) {n j : Nat} (h : j < n) : (cellsOf z n)[j]? = some (.int .u8 (z j : Int)) := by
  simp [cellsOf, List.getElem?_map, List.getElem?_range h]
theorem cellsOf_one (z : Nat → Nat) (n : Nat) : ∀ v ∈ cellsOf z n, v.oneCell' = true := by
  intro v hv
  simp only [cellsOf, List.mem_map] at hv
  obtain ⟨i, _, rfl⟩ := hv
  rfl

/-- The bytes z lie at the address x. -/
def Src (w : World) (x : Addr) (n : Nat) (z : Nat → Nat) : Prop := ∀ i, i < n → z i < 256 ∧ w.cell? (x.add i) = some (.int .u8 (z i : Int))
theorem Src.cells {w w' : World} {x : Addr} {n : Nat} {z : Nat → Nat} (h : Src w x n z) (hb : Below w.heap.size w w') : ∀ j v, (cellsOf z n)[j]? = some v → w'.cell? (x.add j) = some v := by
  intro j v hv
  obtain ⟨hj, rfl⟩ := get_cellsOf hv
  exact (hb.cell (World.block_lt_of_cell? w _ (h j hj).2)).trans (h j hj).2

theorem info5 : (Try.prog.info? 5).map (fun i => (i.zero, i.size, i.bytes)) = some (some (.int .u8 0), 1, 1) := by kernel_rfl
theorem size5 : (Try.prog.info? 5).map (·.size) = some 1 := by kernel_rfl
theorem make22 (n : Nat) (h : n ≤ 1048576) (w : World) : (Instr.makeSlice 22 (.int .i64 (n : Int)) (.int .i64 (n : Int))).run Try.prog w = .ok (.slice (some ⟨w.heap.size, 0, none⟩) n n) (w.alloc (.cells (madeCells #[.int .u8 0] n) 5)) :=
  run_make_row' (P := Try.prog) 22 5 (.int .u8 0) 1 Try.underlying22 info5 rfl .i64 .i64 n (by omega) (by omega) w

theorem splice_all {α : Type} (L M : List α) (h : L.length = M.length) : splice L 0 M = M := by
  simp [splice, ← h]

theorem made_toList (n : Nat) : (madeCells #[Value.int .u8 0] n).toList.length = n := by simp [size_madeCells]
theorem made_heap (w : World) (n : Nat) : (w.alloc (.cells (madeCells #[.int .u8 0] n) 5)).heap[w.heap.size]? = some (.cells (madeCells #[.int .u8 0] n).toList.toArray 5 (0, 0)) := by
  rw [heap_alloc_new]

theorem bytes_of_row {w : World} {g n : Nat} {z : Nat → Nat} (h : w.heap[g]? = some (.cells (cellsOf z n).toArray 5 (0, 0))) (hz : ∀ i, i < n → z i < 256) : Bytes w g 0 n z := by
  intro i hi
  refine ⟨hz i hi, ?_⟩
  rw [Nat.zero_add, cell_of_row w g i _ _ _ h]
  simpa using cellsOf_get z hi

set_option maxHeartbeats 400000 in
theorem law3_some (x : Addr) (len cap : Nat) (z : Nat → Nat) (cs : Array Value) (ks : Nat → Bool) (w : World) (hcs : cs.size = 256) (hk : ∀ i, i < 256 → cs[i]? = some (.bool (ks i))) (hl : len ≤ 1048576) (hsrc : Src w x len z) :
    Calls Try.prog 3 #[.slice (some x) len cap, .agg cs] w fun e w' => e = .returned (.bool true) ∧ Below w.heap.size w w' := by
  have hinfo := info23 hcs
  have HK : Hid (∀ i, i < 256 → cs[i]? = some (.bool (ks i))) := hk
  have HS : Hid (Src w x len z) := hsrc
  clear hcs hk hsrc
  have hg := heap_alloc_new w (.cells cs 23)
  have hg2 := heap_alloc2_old w (.cells cs 23) (.cells cs 23)
  have q := neq22
  have zz := zzBytes11 (some x) len cap cs (w.alloc (.cells cs 23)) (by unfold maxLen; omega)
  rw [show decide (len ≤ 1048576) = true by simpa using hl] at zz
  have mk := make22 len hl
  go_enter Try.func3, Try.ntmps3
  go_wp2_with (refine wpList_load_row rfl 23 _ rfl w.heap.size rfl 23 cs (0,0) _ hg Try.underlying23 rfl hinfo ?_)
  refine zz.mono ?_
  rintro e w' ⟨rfl, rfl⟩
  clear zz
  have hsz2 : ((w.alloc (.cells cs 23)).alloc (.cells cs 23)).heap.size = w.heap.size + 1 + 1 := by simp
  have hd0 : decide ((1048576 : Int) < (len : Int)) = false := by simp; omega
  have hrow : (((w.alloc (.cells cs 23)).alloc (.cells cs 23)).alloc (.cells (madeCells #[.int .u8 0] len) 5)).heap[w.heap.size + 1 + 1]? = some (.cells (madeCells #[.int .u8 0] len).toList.toArray 5 (0, 0)) := by
    have h := made_heap ((w.alloc (.cells cs 23)).alloc (.cells cs 23)) len
    rwa [hsz2] at h
  have hbw : Below w.heap.size w (((w.alloc (.cells cs 23)).alloc (.cells cs 23)).alloc (.cells (madeCells #[.int .u8 0] len) 5)) := (((Below.refl _ _).alloc (Nat.le_refl _) _).alloc (by simp) _).alloc (by simp; omega) _
  have hcop := HS.out.cells hbw
  have hg3 : (((w.alloc (.cells cs 23)).alloc (.cells cs 23)).alloc (.cells (madeCells #[.int .u8 0] len) 5)).heap[w.heap.size]? = some (.cells cs 23) := by
    rw [Below.heap_alloc _ _ _ (by simp; omega)]; exact hg2
  have HROW := hid hrow
  have HCOP := hid hcop
  have HG3 := hid hg3
  clear hrow hcop hg3
  go_wp2_with (refine wpList_copy_splice rfl (.tmp 20) (.tmp 21) 22 22 rfl 5 Try.underlying22 size5 _ _ _ _ _ _ rfl rfl (w.heap.size + 1 + 1) 0 (madeCells #[.int .u8 0] len).toList 5 HROW.out (cellsOf z len) (by simp [length_cellsOf, Nat.min_def]) (fun _ => ⟨rfl, x, rfl, HCOP.out⟩) (by simp [length_cellsOf, size_madeCells]) (cellsOf_one z len) (w.heap.size + 1 + 1) _ (Below.refl _ _) (Nat.le_refl _) ?_; intro w2 HG2 hB2; refine Hid.out ?_)
  refine hid ?_
  have hg4 : w2.heap[w.heap.size]? = some (.cells cs 23) := (hB2.block _ (by omega)).trans HG3.out
  have hb2 : Below w.heap.size w w2 := hbw.trans (hB2.mono (by omega))
  have hrow2 : w2.heap[w.heap.size + 1 + 1]? = some (.cells (cellsOf z len).toArray 5 (0, 0)) := by
    have h := HG2.out
    rwa [splice_all _ _ (by rw [made_toList, length_cellsOf])] at h
  have hby : Bytes w2 (w.heap.size + 1 + 1) 0 len z := bytes_of_row hrow2 (fun i hi => (HS.out i hi).1)
  have hlt2 : w.heap.size + 1 + 1 < w2.heap.size := (Array.getElem?_eq_some_iff.1 hrow2).1
  clear hrow2 HG2 HROW HCOP HG3 hB2 hbw hg hg2 mk hsz2 HS
  have HBY := hid hby
  have HB2 := hid hb2
  clear hby hb2
  go_wp2_with (refine wpList_load_row rfl 23 _ rfl w.heap.size rfl 23 cs (0,0) _ hg4 Try.underlying23 rfl hinfo ?_)
  refine (ZZRunLenIn_any cs ks _ 0 len len z _ HK.out hlt2 HBY.out (by omega)).mono ?_
  rintro e w' ⟨⟨r, rfl, hr⟩, rfl⟩
  have HT : Hid (Tab w2 w.heap.size ks) := fun i hi => by rw [cell_of_row _ _ _ cs 23 (0, 0) hg4]; exact HK.out i hi
  obtain ⟨hr1, hr2, hr3⟩ := hr
  have HR2 := hid hr2
  have HR3 := hid hr3
  clear hr2 hr3 hg4 hinfo q
  have hd1 : decide (len < r) = false := by simp; omega
  have hw3 : Hid (Below w.heap.size w (w2.alloc (.cells cs 23))) := HB2.out.alloc (by omega) _
  have HBY3 : Hid (Bytes (w2.alloc (.cells cs 23)) (w.heap.size + 1 + 1) 0 len z) := HBY.out.below ((Below.refl _ _).alloc (Nat.le_refl _) _) hlt2
  have HT3 : Hid (Tab (w2.alloc (.cells cs 23)) w.heap.size ks) := HT.out.below ((Below.refl _ _).alloc (Nat.le_refl _) _) (by omega)
  clear HT HBY HB2
  go_wp2_with fail
  go_loop [7] (fun j => ∃ k : Nat, k ≤ r ∧ j = .int .i64 k) (fun j => r - (intOf j).toNat)
  case atStart => exact ⟨0, Nat.zero_le _, rfl⟩
  case round =>
    obtain ⟨k, hk, rfl⟩ := hrel
    by_cases hlt : k < r
    · have h1 := (HBY3.out k (by omega)).2
      have h0 := (HBY3.out k (by omega)).1
      have h2 := HT3.out (z k) h0
      rw [HR2.out k hlt] at h2
      simp only [Nat.zero_add] at h1
      go_wp2
      go_round
      case rel => exact ⟨k + 1, by omega, by go_num⟩
      case measure => simp [intOf]; omega
    · by_cases hre : r = len
      · subst hre
        go_wp2
        go_ret
        exact ⟨rfl, hw3.out⟩
      · have h1 := (HBY3.out r (by omega)).2
        have h0 := (HBY3.out r (by omega)).1
        have h2 := HT3.out (z r) h0
        rw [HR3.out (by omega)] at h2
        simp only [Nat.zero_add] at h1
        have hne : ((r : Int) == (len : Int)) = false := by simp; omega
        go_wp2
        go_ret
        exact ⟨rfl, hw3.out⟩

end Go.Proofs.Qxb6612279a
