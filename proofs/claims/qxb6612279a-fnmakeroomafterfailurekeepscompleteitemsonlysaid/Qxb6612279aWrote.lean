/- The walk of (*ItemBuffer).wrote behind a write that did not fail (seat b6612279a). -/
import Derived.Test.Qxb6612279aItems
namespace Go.Proofs.Qxb6612279a
open Go.RowKit

set_option maxHeartbeats 2000000 in
theorem wrote_some (ib R len cap n : Nat) (d ev : Value) (wh : Int) (cur : Array Value) (w : World)
    (hib : w.heap[ib]? = some (.cells #[d, .slice (some ⟨R, 0, none⟩) len cap, .int .i64 wh, ev] 51 (0, 0))) (hR : w.heap[R]? = some (.cells cur 5 (0, 0)))
    (hlc : len ≤ cap) (hcm : cap ≤ maxLen) (hcs : cur.size = cap) (hn : n < len) (h1 : ∀ v ∈ cur.toList.take len, v.oneCell' = true) :
    Calls Try.prog 41 #[.pointer (some ⟨ib, 0, none⟩), .int .i64 n, .nilIface] w fun e w' => e = .returned (.tuple #[]) ∧ ∃ cur', w'.heap[ib]? = some (.cells #[d, .slice (some ⟨R, 0, none⟩) (len - n) cap, .int .i64 (-1), ev] 51 (0, 0)) ∧
      w'.heap[R]? = some (.cells cur' 5 (0, 0)) ∧ cur'.size = cap ∧ cur'.toList.take (len - n) = (cur.toList.take len).drop n ∧ Kept2 w w' ib (some R) := by
  have hcm' := hcm
  unfold maxLen at hcm'
  have hRib : R ≠ ib := ne_of_tags hR hib (by decide)
  have c2 : w.cell? ⟨ib, 2, none⟩ = some (.int .i64 wh) := cell_at hib 2 rfl
  have f2 : w.frozen? ⟨ib, 2, none⟩ = false := frozen_of_row _ _ _ _ _ hib
  have hib1 : (w.setCell ⟨ib, 2, none⟩ (.int .i64 (-1))).heap[ib]? = some (.cells #[d, .slice (some ⟨R, 0, none⟩) len cap, .int .i64 (-1), ev] 51 (0, 0)) := by
    have h := heap_setCell_same w ib 2 _ _ (.int .i64 (-1)) hib
    simpa using h
  have hR1 : (w.setCell ⟨ib, 2, none⟩ (.int .i64 (-1))).heap[R]? = some (.cells cur 5 (0, 0)) := by rw [Below.heap_setCell _ _ _ _ hRib]; exact hR
  have hk1 : Kept2 w (w.setCell ⟨ib, 2, none⟩ (.int .i64 (-1))) ib (some R) := (Kept2.refl w ib _).setCell 2 _
  have nn : ∀ w, (binOp .neq 34 .nilIface .nilIface).run Try.prog w = .ok (.bool false) w := fun w => by kernel_rfl
  go_enter Try.func41, Try.ntmps41
  go_wp2
  clear c2 f2 hib hR
  generalize w.setCell ⟨ib, 2, none⟩ (.int .i64 (-1)) = W at *
  have hcl : ((cur.toList.take len).drop n).length = len - n := by simp; omega
  have hsrc : ∀ j v, ((cur.toList.take len).drop n)[j]? = some v → W.drew.cell? ((⟨R, n, none⟩ : Addr).add j) = some v := by
    intro j v hj
    have hadd : (⟨R, n, none⟩ : Addr).add j = ⟨R, n + j, none⟩ := by unfold Addr.add; split <;> simp_all
    rw [hadd, cell_of_row W.drew R (n + j) cur 5 (0, 0) hR1]
    rw [List.getElem?_drop, List.getElem?_take] at hj
    split at hj
    · simpa using hj
    · cases hj
  have hcp := run_copy_row (P := Try.prog) W.drew 22 22 3 5 R 0 len cap ⟨R, n, none⟩ (len - n) (cap - n) cur 5 ((cur.toList.take len).drop n) Try.underlying22 size5 hR1 (by rw [hcl]; exact (Nat.min_eq_left (by omega)).symm) hsrc (by rw [hcl]; omega) (fun v hv => h1 v (List.mem_of_mem_drop hv))
  rw [hcl] at hcp
  generalize hX : (cur.toList.take 0 ++ (cur.toList.take len).drop n ++ cur.toList.drop (0 + (len - n))).toArray = X at hcp
  have c1 : W.cell? ⟨ib, 1, none⟩ = some (.slice (some ⟨R, 0, none⟩) len cap) := cell_at hib1 1 rfl
  have f1 : W.frozen? ⟨ib, 1, none⟩ = false := frozen_of_row _ _ _ _ _ hib1
  have hib2 : (W.drew.setRow R X).heap[ib]? = some (.cells #[d, .slice (some ⟨R, 0, none⟩) len cap, .int .i64 (-1), ev] 51 (0, 0)) := by rw [setRow_other _ _ _ _ (Ne.symm hRib)]; exact hib1
  have d1 : (W.drew.setRow R X).cell? ⟨ib, 1, none⟩ = some (.slice (some ⟨R, 0, none⟩) len cap) := cell_at hib2 1 rfl
  have e1 : (W.drew.setRow R X).frozen? ⟨ib, 1, none⟩ = false := frozen_of_row _ _ _ _ _ hib2
  have hne : ¬ cap = n := by omega
  have hXl : X.toList = (cur.toList.take len).drop n ++ cur.toList.drop (len - n) := by rw [← hX]; simp
  have HFIN : Hid (∃ cur', ((W.drew.setRow R X).setCell ⟨ib, 1, none⟩ (.slice (some ⟨R, 0, none⟩) (len - n) cap)).heap[ib]? = some (.cells #[d, .slice (some ⟨R, 0, none⟩) (len - n) cap, .int .i64 (-1), ev] 51 (0, 0)) ∧
      ((W.drew.setRow R X).setCell ⟨ib, 1, none⟩ (.slice (some ⟨R, 0, none⟩) (len - n) cap)).heap[R]? = some (.cells cur' 5 (0, 0)) ∧ cur'.size = cap ∧ cur'.toList.take (len - n) = (cur.toList.take len).drop n ∧ Kept2 w ((W.drew.setRow R X).setCell ⟨ib, 1, none⟩ (.slice (some ⟨R, 0, none⟩) (len - n) cap)) ib (some R)) := by
    refine ⟨X, ?_, ?_, ?_, ?_, ?_⟩
    · have h := heap_setCell_same _ ib 1 _ _ (.slice (some ⟨R, 0, none⟩) (len - n) cap) hib2
      simpa using h
    · rw [Below.heap_setCell _ _ _ _ hRib]; exact setRow_heap W.drew R cur X 5 (0, 0) hR1
    · have : X.toList.length = cap := by rw [hXl, List.length_append, hcl, List.length_drop, Array.length_toList, hcs]; omega
      simpa using this
    · rw [hXl, List.take_append_of_le_length (by rw [hcl]; exact Nat.le_refl _), List.take_of_length_le (by rw [hcl]; exact Nat.le_refl _)]
    · exact (Kept2.trans (hk1.trans ⟨rfl, rfl, rfl, Nat.le_refl _, fun _ _ _ _ => rfl⟩ : Kept2 w W.drew ib (some R)) ((Kept2.refl W.drew ib (some R)).setRow R X (.inl rfl))).setCell 1 _
  clear hX hXl hk1 hib1 hib2 hR1 hsrc hcl h1 hcs
  go_region
  go_end0
  exact ⟨rfl, HFIN.out⟩

set_option maxHeartbeats 2000000 in
theorem wrote_all (ib R len cap : Nat) (d ev : Value) (wh : Int) (cur : Array Value) (w : World)
    (hib : w.heap[ib]? = some (.cells #[d, .slice (some ⟨R, 0, none⟩) len cap, .int .i64 wh, ev] 51 (0, 0))) (hR : w.heap[R]? = some (.cells cur 5 (0, 0)))
    (hlc : len ≤ cap) (hcm : cap ≤ maxLen) (hcs : cur.size = cap) :
    Calls Try.prog 41 #[.pointer (some ⟨ib, 0, none⟩), .int .i64 len, .nilIface] w fun e w' => e = .returned (.tuple #[]) ∧ ∃ cur', w'.heap[ib]? = some (.cells #[d, .slice (some ⟨R, 0, none⟩) 0 cap, .int .i64 (-1), ev] 51 (0, 0)) ∧
      w'.heap[R]? = some (.cells cur' 5 (0, 0)) ∧ cur'.size = cap ∧ Kept2 w w' ib (some R) := by
  have hcm' := hcm
  unfold maxLen at hcm'
  have hRib : R ≠ ib := ne_of_tags hR hib (by decide)
  have c2 : w.cell? ⟨ib, 2, none⟩ = some (.int .i64 wh) := cell_at hib 2 rfl
  have f2 : w.frozen? ⟨ib, 2, none⟩ = false := frozen_of_row _ _ _ _ _ hib
  have hib1 : (w.setCell ⟨ib, 2, none⟩ (.int .i64 (-1))).heap[ib]? = some (.cells #[d, .slice (some ⟨R, 0, none⟩) len cap, .int .i64 (-1), ev] 51 (0, 0)) := by
    have h := heap_setCell_same w ib 2 _ _ (.int .i64 (-1)) hib
    simpa using h
  have hR1 : (w.setCell ⟨ib, 2, none⟩ (.int .i64 (-1))).heap[R]? = some (.cells cur 5 (0, 0)) := by rw [Below.heap_setCell _ _ _ _ hRib]; exact hR
  have hk1 : Kept2 w (w.setCell ⟨ib, 2, none⟩ (.int .i64 (-1))) ib (some R) := (Kept2.refl w ib _).setCell 2 _
  have nn : ∀ w, (binOp .neq 34 .nilIface .nilIface).run Try.prog w = .ok (.bool false) w := fun w => by kernel_rfl
  have hce : ∀ d dLen dCap p c W, (Builtin.copy_ #[22, 22] 3 #[.slice d dLen dCap, .slice p 0 c]).run Try.prog W = .ok (goInt 0) W := fun d dLen dCap p c W => run_copy_none W 22 22 3 5 d p dLen dCap 0 c Try.underlying22 size5 (by simp)
  go_enter Try.func41, Try.ntmps41
  go_wp2
  clear c2 f2 hib hR
  generalize w.setCell ⟨ib, 2, none⟩ (.int .i64 (-1)) = W at *
  have c1 : W.cell? ⟨ib, 1, none⟩ = some (.slice (some ⟨R, 0, none⟩) len cap) := cell_at hib1 1 rfl
  have f1 : W.frozen? ⟨ib, 1, none⟩ = false := frozen_of_row _ _ _ _ _ hib1
  have HFIN : Hid (∃ cur', (W.drew.setCell ⟨ib, 1, none⟩ (.slice (some ⟨R, 0, none⟩) 0 cap)).heap[ib]? = some (.cells #[d, .slice (some ⟨R, 0, none⟩) 0 cap, .int .i64 (-1), ev] 51 (0, 0)) ∧
      (W.drew.setCell ⟨ib, 1, none⟩ (.slice (some ⟨R, 0, none⟩) 0 cap)).heap[R]? = some (.cells cur' 5 (0, 0)) ∧ cur'.size = cap ∧ Kept2 w (W.drew.setCell ⟨ib, 1, none⟩ (.slice (some ⟨R, 0, none⟩) 0 cap)) ib (some R)) := by
    refine ⟨cur, ?_, ?_, hcs, ?_⟩
    · have h := heap_setCell_same W.drew ib 1 _ _ (.slice (some ⟨R, 0, none⟩) 0 cap) hib1
      simpa using h
    · rw [Below.heap_setCell _ _ _ _ hRib]; exact hR1
    · exact (hk1.trans ⟨rfl, rfl, rfl, Nat.le_refl _, fun _ _ _ _ => rfl⟩ : Kept2 w W.drew ib (some R)).setCell 1 _
  clear hk1 hib1 hR1 hcs
  by_cases hne : cap = len
  · subst hne
    go_region
    go_end0
    exact ⟨rfl, HFIN.out⟩
  · go_region
    go_end0
    exact ⟨rfl, HFIN.out⟩

/-- (*ItemBuffer).wrote(n, nil): what follows the first n bytes stays held; only the struct and its row turn. -/
theorem wrote_any (ib R len cap n : Nat) (d ev : Value) (wh : Int) (cur : Array Value) (w : World)
    (hib : w.heap[ib]? = some (.cells #[d, .slice (some ⟨R, 0, none⟩) len cap, .int .i64 wh, ev] 51 (0, 0))) (hR : w.heap[R]? = some (.cells cur 5 (0, 0)))
    (hlc : len ≤ cap) (hcm : cap ≤ maxLen) (hcs : cur.size = cap) (hn : n ≤ len) (h1 : ∀ v ∈ cur.toList.take len, v.oneCell' = true) :
    Calls Try.prog 41 #[.pointer (some ⟨ib, 0, none⟩), .int .i64 n, .nilIface] w fun e w' => e = .returned (.tuple #[]) ∧ ∃ cur', w'.heap[ib]? = some (.cells #[d, .slice (some ⟨R, 0, none⟩) (len - n) cap, .int .i64 (-1), ev] 51 (0, 0)) ∧
      w'.heap[R]? = some (.cells cur' 5 (0, 0)) ∧ cur'.size = cap ∧ cur'.toList.take (len - n) = (cur.toList.take len).drop n ∧ Kept2 w w' ib (some R) := by
  by_cases h : n < len
  · exact wrote_some ib R len cap n d ev wh cur w hib hR hlc hcm hcs h h1
  · have e : n = len := by omega
    subst e
    refine (wrote_all ib R n cap d ev wh cur w hib hR hlc hcm hcs).mono ?_
    rintro e w' ⟨he, cur', k1, k2, k3, k4⟩
    rw [Nat.sub_self]
    exact ⟨he, cur', k1, k2, k3, by simp, k4⟩

end Go.Proofs.Qxb6612279a
