/- Byte slices as lists of numbers; append onto a row of the call's own; zzCat and zzEq (seat b6612279a). -/
import Derived.Test.Qxb6612279aWrite
import Derived.Deep.AppendSrc
namespace Go.Proofs.Qxb6612279a
open Go.RowKit

/-- Bytes as cells. -/
def cells (bs : List Nat) : List Value := bs.map fun (y : Nat) => Value.int .u8 (y : Int)
theorem length_cells (bs : List Nat) : (cells bs).length = bs.length := by simp [cells]
theorem cells_append (xs ys : List Nat) : cells (xs ++ ys) = cells xs ++ cells ys := by simp [cells]
theorem cells_drop (xs : List Nat) (n : Nat) : (cells xs).drop n = cells (xs.drop n) := by simp [cells]
theorem cells_take (xs : List Nat) (n : Nat) : (cells xs).take n = cells (xs.take n) := by simp [cells]
theorem cells_one (bs : List Nat) : ∀ v ∈ cells bs, v.oneCell' = true := by
  intro v hv
  simp only [cells, List.mem_map] at hv
  obtain ⟨i, _, rfl⟩ := hv
  rfl
theorem cells_get {bs : List Nat} {j : Nat} {v : Value} (h : (cells bs)[j]? = some v) : ∃ y : Nat, bs[j]? = some y ∧ v = .int .u8 (y : Int) := by
  simp only [cells, List.getElem?_map, Option.map_eq_some_iff] at h
  obtain ⟨y, hy, rfl⟩ := h
  exact ⟨y, hy, rfl⟩

/-- The slice v reads as the bytes bs; where it has any they lie below block N. -/
def View (N : Nat) (w : World) (v : Value) (bs : List Nat) : Prop :=
  ∃ a cap, v = .slice a bs.length cap ∧ bs.length ≤ maxLen ∧ (bs = [] ∨ ∃ b off, a = some ⟨b, off, none⟩ ∧ b < N ∧ ∀ (i : Nat) (y : Nat), bs[i]? = some y → w.cell? ⟨b, off + i, none⟩ = some (.int .u8 (y : Int)))

theorem View.below {N M : Nat} {w w' : World} {v : Value} {bs : List Nat} (h : View N w v bs) (hb : Below M w w') (hNM : N ≤ M) : View N w' v bs := by
  obtain ⟨a, cap, h1, h2, h3⟩ := h
  refine ⟨a, cap, h1, h2, ?_⟩
  rcases h3 with h3 | ⟨b, off, ha, hbN, hc⟩
  · exact .inl h3
  · exact .inr ⟨b, off, ha, hbN, fun i y hy => (hb.cell (p := ⟨b, off + i, none⟩) (Nat.lt_of_lt_of_le hbN hNM)).trans (hc i y hy)⟩
theorem View.mono {N M : Nat} {w : World} {v : Value} {bs : List Nat} (h : View N w v bs) (hNM : N ≤ M) : View M w v bs := by
  obtain ⟨a, cap, h1, h2, h3⟩ := h
  refine ⟨a, cap, h1, h2, ?_⟩
  rcases h3 with h3 | ⟨b, off, ha, hbN, hc⟩
  · exact .inl h3
  · exact .inr ⟨b, off, ha, by omega, hc⟩
theorem View.nil (N : Nat) (w : World) : View N w (.slice none 0 0) [] := ⟨none, 0, rfl, Nat.zero_le _, .inl rfl⟩

theorem view_row {w : World} {R cap : Nat} {cur : Array Value} {bs : List Nat} (hR : w.heap[R]? = some (.cells cur 5 (0, 0))) (hm : bs.length ≤ maxLen) (htk : cur.toList.take bs.length = cells bs) : View w.heap.size w (.slice (some ⟨R, 0, none⟩) bs.length cap) bs := by
  refine ⟨_, cap, rfl, hm, .inr ⟨R, 0, rfl, lt_of_heap hR, fun i y hy => ?_⟩⟩
  rw [Nat.zero_add, cell_of_row _ _ _ _ _ _ hR]
  have hi : i < bs.length := (List.getElem?_eq_some_iff.1 hy).1
  have h : (cells bs)[i]? = some (.int .u8 (y : Int)) := by simp [cells, hy]
  rw [← htk, List.getElem?_take, if_pos hi] at h
  simpa using h

/-- Either nil with nothing in it, or the cells behind an address. -/
theorem View.src {N : Nat} {w : World} {a : Option Addr} {m c : Nat} {bs : List Nat} (h : View N w (.slice a m c) bs) : m = bs.length ∧ bs.length ≤ maxLen ∧ ((a = none ∧ bs = []) ∨ ∃ x, a = some x ∧ ∀ j u, (cells bs)[j]? = some u → w.cell? (x.add j) = some u) := by
  obtain ⟨a', cap, h1, h2, h3⟩ := h
  injection h1 with e1 e2 e3
  subst e1; subst e2
  refine ⟨rfl, h2, ?_⟩
  rcases h3 with h3 | ⟨b, off, ha, hbN, hc⟩
  · subst h3
    cases a with
    | none => exact .inl ⟨rfl, rfl⟩
    | some x => exact .inr ⟨x, rfl, fun j u hj => by simp [cells] at hj⟩
  · refine .inr ⟨_, ha, fun j u hj => ?_⟩
    obtain ⟨y, hy, rfl⟩ := cells_get hj
    have hadd : (⟨b, off, none⟩ : Addr).add j = ⟨b, off + j, none⟩ := by unfold Addr.add; split <;> simp_all
    rw [hadd]
    exact hc j y hy

/-- append(v, src...) where v lies at the head of the row R: into its room, or a new row. -/
theorem append_row (w : World) (R n cap : Nat) (cur : Array Value) (xs : List Value) (hR : w.heap[R]? = some (.cells cur 5 (0, 0))) (hlc : n ≤ cap) (hcm : cap ≤ maxLen) (hcs : cur.size = cap) (hxn : xs.length = n) (htk : cur.toList.take n = xs)
    (N : Nat) (a : Option Addr) (m c : Nat) (bs : List Nat) (hV : View N w (.slice a m c) bs) (hlim : n + bs.length ≤ 1099511627776) :
    ∃ v' w', (Builtin.append_ #[22, 22] 22 #[.slice (some ⟨R, 0, none⟩) n cap, .slice a m c]).run Try.prog w = .ok v' w' ∧
      (∃ R' cap' cur', v' = .slice (some ⟨R', 0, none⟩) (n + bs.length) cap' ∧ w'.heap[R']? = some (.cells cur' 5 (0, 0)) ∧ n + bs.length ≤ cap' ∧ cap' ≤ maxLen ∧ cur'.size = cap' ∧ cur'.toList.take (n + bs.length) = xs ++ cells bs ∧
        ((R' = R ∧ cap' = cap) ∨ (w.heap.size ≤ R' ∧ cap < n + bs.length))) ∧ w.grownBy w' (some R) := by
  obtain ⟨rfl, hbm, hsrc⟩ := hV.src
  obtain ⟨i0, hi, hz0, hz1, hz2⟩ := info_parts info5
  have hml := length_cells bs
  rcases hsrc with ⟨rfl, rfl⟩ | ⟨x, rfl, hx⟩
  · have hsv := Src.ofNil (P := Try.prog) (w := w) (size := i0.size) (tx := 22) Try.underlying22 c
    have hr := run_append_room_src (P := Try.prog) w 22 22 22 5 i0 Try.underlying22 hi R 0 n cap (.slice none 0 c) 0 [] hsv (by omega) (fun j hj => by simp at hj) (fun j hj => by simp at hj)
    have e : w.setCells R (0 + n * i0.size) [] = w := rfl
    rw [e] at hr
    exact ⟨_, _, hr, ⟨R, cap, cur, rfl, hR, by simpa using hlc, hcm, hcs, by simpa [cells] using htk, .inl ⟨rfl, rfl⟩⟩, grownBy_refl w _⟩
  · by_cases hroom : n + bs.length ≤ cap
    · have hr := run_append_room (P := Try.prog) w 22 22 5 i0 Try.underlying22 hi R n cap cur hR x bs.length c (cells bs) (by rw [hz1]; omega) hx (cells_one bs) hroom (by rw [hz1]; omega)
      rw [hz1, Nat.mul_one, hml] at hr
      refine ⟨_, _, hr, ⟨R, cap, _, rfl, setRow_heap w R cur _ 5 _ hR, hroom, hcm, ?_, ?_, .inl ⟨rfl, rfl⟩⟩, ⟨rfl, rfl, rfl, by simp, fun k _ hk => setRow_other w R k _ (fun e => hk (by rw [e]))⟩⟩
      · simp [hml]; omega
      · rw [htk]
        simp only
        rw [List.take_append_of_le_length (by simp [hml, hxn]), List.take_of_length_le (by simp [hml, hxn])]
    · have holds : ∀ j u, xs[j]? = some u → w.cell? ((⟨R, 0, none⟩ : Addr).add j) = some u := by rw [← htk]; exact src_take hR n
      have hr := run_append_grow (P := Try.prog) w 22 22 5 i0 (.int .u8 0) Try.underlying22 hi hz0 ⟨R, 0, none⟩ n cap xs (by rw [hz1]; omega) holds x bs.length c (cells bs) (by rw [hz1]; omega) hx (by omega) (by omega) (growslice_fits (by omega) (by rw [hz2]; omega))
      have hge := grownCap_ge w (n + bs.length) cap 5
      have hcap : grownCap w (n + bs.length) cap 5 ≤ maxLen := grownCap_le_maxLen w (n + bs.length) cap 5 (by unfold maxLen; omega)
      refine ⟨_, _, hr, ⟨w.heap.size, _, _, rfl, heap_alloc_new w.drew _, hge, hcap, ?_, ?_, .inr ⟨Nat.le_refl _, by omega⟩⟩, ⟨rfl, rfl, rfl, by simp, fun k hk _ => Below.heap_alloc w.drew _ k hk⟩⟩
      · simp [size_zeroCells, Value.cells, hml, hxn]; omega
      · simp only [Array.toList_append, List.append_assoc]
        rw [← List.append_assoc, List.take_append_of_le_length (by simp [hml, hxn]), List.take_of_length_le (by simp [hml, hxn])]

theorem make_cap (la lb : Nat) (h : la + lb ≤ 1099511627776) (w : World) : (Instr.makeSlice 22 (.int .i64 0) (.int .i64 ((la : Int) + (lb : Int)))).run Try.prog w = .ok (.slice (some ⟨w.heap.size, 0, none⟩) 0 (la + lb)) (w.alloc (.cells (madeCells #[.int .u8 0] (la + lb)) 5)) := by
  obtain ⟨i0, hi, hz0, hz1, hz2⟩ := info_parts info5
  have e : ((la : Int) + (lb : Int)) = ((la + lb : Nat) : Int) := by omega
  rw [e]
  have hb : (i0.bytes : Int) * ((la + lb : Nat) : Int) ≤ 281474976710656 := by rw [hz2]; omega
  have h := run_make (P := Try.prog) w 22 5 i0 (.int .u8 0) Try.underlying22 hi hz0 .i64 .i64 0 ((la + lb : Nat) : Int) (by omega) (by omega) hb (by omega)
  rw [hz1, Int.toNat_natCast, Nat.mul_one] at h
  exact h

set_option maxHeartbeats 400000 in
/-- zzCat: a fresh slice that reads as a, then b; nothing old has turned. -/
theorem zzCat_any (N : Nat) (a1 a2 : Option Addr) (l1 c1 l2 c2 : Nat) (bs1 bs2 : List Nat) (w : World) (hNw : N ≤ w.heap.size) (h1 : View N w (.slice a1 l1 c1) bs1) (h2 : View N w (.slice a2 l2 c2) bs2) (hlim : bs1.length + bs2.length ≤ 1099511627776) :
    Calls Try.prog 20 #[.slice a1 l1 c1, .slice a2 l2 c2] w fun e w' => ∃ v, e = .returned v ∧ View w'.heap.size w' v (bs1 ++ bs2) ∧ Below w.heap.size w w' := by
  obtain ⟨rfl, hm1, -⟩ := h1.src
  obtain ⟨rfl, hm2, -⟩ := h2.src
  have mk := make_cap bs1.length bs2.length hlim w
  have L1 : Below w.heap.size w (w.alloc (.cells (madeCells #[.int .u8 0] (bs1.length + bs2.length)) 5)) := (Below.refl _ _).alloc (Nat.le_refl _) _
  obtain ⟨v1, w1, r1, ⟨R1, cap1, cur1, hv1, hR1, hl1, hcm1, hcs1, htk1, hd1⟩, g1⟩ := append_row (w.alloc (.cells (madeCells #[.int .u8 0] (bs1.length + bs2.length)) 5)) w.heap.size 0 (bs1.length + bs2.length) _ [] (heap_alloc_new w _) (Nat.zero_le _) (by unfold maxLen; omega) (size_madeCells _ _) rfl rfl N a1 bs1.length c1 bs1 (h1.below L1 hNw) (by omega)
  obtain ⟨rfl, rfl⟩ : R1 = w.heap.size ∧ cap1 = bs1.length + bs2.length := by
    rcases hd1 with hd1 | ⟨_, hd1⟩
    · exact hd1
    · omega
  rw [Nat.zero_add] at hv1 hl1 htk1
  rw [List.nil_append] at htk1
  have L2 : Below w.heap.size w w1 := L1.trans ⟨g1.os, g1.tape, g1.output, g1.size, fun k hk => g1.block k (by simp; omega) (fun e => by have := Option.some.inj e; omega)⟩
  obtain ⟨v2, w2, r2, ⟨R2, cap2, cur2, hv2, hR2, hl2, hcm2, hcs2, htk2, hd2⟩, g2⟩ := append_row w1 w.heap.size bs1.length (bs1.length + bs2.length) cur1 (cells bs1) hR1 (by omega) hcm1 hcs1 (length_cells _) htk1 N a2 bs2.length c2 bs2 (h2.below L2 hNw) (by omega)
  obtain ⟨rfl, rfl⟩ : R2 = w.heap.size ∧ cap2 = bs1.length + bs2.length := by
    rcases hd2 with hd2 | ⟨_, hd2⟩
    · exact hd2
    · omega
  have L3 : Below w.heap.size w w2 := L2.trans ⟨g2.os, g2.tape, g2.output, g2.size, fun k hk => g2.block k (by have := L2.size; omega) (fun e => by have := Option.some.inj e; omega)⟩
  have V : View w2.heap.size w2 (.slice (some ⟨w.heap.size, 0, none⟩) (bs1.length + bs2.length) (bs1.length + bs2.length)) (bs1 ++ bs2) := by
    have h := view_row (cap := bs1.length + bs2.length) (bs := bs1 ++ bs2) hR2 (by rw [List.length_append]; exact hcm2) (by rw [List.length_append, htk2, cells_append])
    rwa [List.length_append] at h
  subst hv1
  subst hv2
  unfold maxLen at hm1 hm2
  have HV := hid V
  have HL := hid L3
  clear V L3 L1 L2 g1 g2 htk1 htk2 hR1 hR2 h1 h2 hd1 hd2 hcs1 hcs2 hcm1 hcm2
  go_enter Try.func20, Try.ntmps20
  go_wp2_with (first | (refine Lib.wpList_append_run _ rfl (.tmp 12) (.tmp 13) 22 22 rfl _ _ rfl rfl _ _ r1 ?_) | (refine Lib.wpList_append_run _ rfl (.tmp 15) (.tmp 16) 22 22 rfl _ _ rfl rfl _ _ r2 ?_))
  go_ret
  exact ⟨_, rfl, HV.out, HL.out⟩

set_option maxHeartbeats 1000000 in
/-- zzEq of two slices that read alike. -/
theorem zzEq_any (N : Nat) (a1 a2 : Option Addr) (l1 c1 l2 c2 : Nat) (bs : List Nat) (w : World) (h1 : View N w (.slice a1 l1 c1) bs) (h2 : View N w (.slice a2 l2 c2) bs) :
    Calls Try.prog 19 #[.slice a1 l1 c1, .slice a2 l2 c2] w fun e w' => e = .returned (.bool true) ∧ ∃ k, w' = w.drewN k := by
  obtain ⟨rfl, hm1, -⟩ := h1.src
  obtain ⟨rfl, -, -⟩ := h2.src
  unfold maxLen at hm1
  by_cases h0 : bs = []
  · subst h0
    clear h1 h2
    go_enter Try.func19, Try.ntmps19
    go_wp2
    go_loop [5] (fun j => j = .int .i64 0) (fun _ => 0)
    case atStart => rfl
    case round =>
      subst hrel
      go_wp2
      go_ret
      exact ⟨rfl, 0, rfl⟩
  · obtain ⟨_, _, e1, -, h1⟩ := h1
    obtain ⟨_, _, e2, -, h2⟩ := h2
    injection e1 with e1 _ e1'
    injection e2 with e2 _ e2'
    subst e1; subst e2; subst e1'; subst e2'
    obtain ⟨b1, o1, rfl, -, k1⟩ := h1.resolve_left h0
    obtain ⟨b2, o2, rfl, -, k2⟩ := h2.resolve_left h0
    have K1 := hid k1
    have K2 := hid k2
    clear k1 k2 h1 h2 h0
    have hne : ((bs.length : Int) != (bs.length : Int)) = false := by simp
    go_enter Try.func19, Try.ntmps19
    go_wp2
    go_loopw [5] (fun j wr => ∃ k : Nat, k ≤ bs.length ∧ j = .int .i64 k ∧ ∃ m, wr = w.drewN m) (fun j _ => bs.length - (intOf j).toNat)
    case atStart => exact ⟨0, Nat.zero_le _, rfl, 0, rfl⟩
    case round =>
      obtain ⟨k, hk, rfl, m, rfl⟩ := hrel
      by_cases hlt : k < bs.length
      · obtain ⟨y, hy⟩ : ∃ y, bs[k]? = some y := ⟨_, List.getElem?_eq_getElem hlt⟩
        have q1 := K1.out k y hy
        have q2 := K2.out k y hy
        have hyy : ((y : Int) != (y : Int)) = false := by simp
        clear hy
        go_wp2
        go_region
        all_goals (
          go_wp2
          go_roundw
          case rel => exact ⟨k + 1, by omega, by go_num, m + 1, rfl⟩
          case measure => simp [intOf]; omega)
      · go_wp2
        go_ret
        exact ⟨rfl, m, rfl⟩

end Go.Proofs.Qxb6612279a
