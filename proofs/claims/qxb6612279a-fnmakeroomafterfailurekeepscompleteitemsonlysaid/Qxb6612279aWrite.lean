/- (*bytes.Buffer).Write with the exact frame (seat b6612279a). -/
import Derived.Test.Qxb6612279aGrow
namespace Go.Proofs.Qxb6612279a
open Go.RowKit

/-- The sink: block b is a bytes.Buffer that has only been written; its slice sv owns the cells bs. -/
structure Sink (N : Nat) (w : World) (b : Nat) (sv : Value) (bs : List Value) : Prop where
  blk : ∃ lr, w.heap[b]? = some (.cells #[sv, .int .i64 0, .int .i8 lr] 57 (0, 0))
  own : w.ownsRow N 5 1 sv bs.length bs
  pos : sv = .slice none 0 0 ∨ 1 ≤ bs.length

/-- All but block b and the row are as they were. -/
structure Kept2 (w w' : World) (b : Nat) (row : Option Nat) : Prop where
  os : w'.os = w.os
  tape : w'.tape = w.tape
  output : w'.output = w.output
  size : w.heap.size ≤ w'.heap.size
  block : ∀ k, k < w.heap.size → k ≠ b → some k ≠ row → w'.heap[k]? = w.heap[k]?

theorem Kept2.refl (w : World) (b : Nat) (row : Option Nat) : Kept2 w w b row := ⟨rfl, rfl, rfl, Nat.le_refl _, fun _ _ _ _ => rfl⟩
theorem Kept2.trans {a w w' : World} {b : Nat} {row : Option Nat} (h : Kept2 a w b row) (k : Kept2 w w' b row) : Kept2 a w' b row :=
  ⟨k.os.trans h.os, k.tape.trans h.tape, k.output.trans h.output, Nat.le_trans h.size k.size, fun i hi hb hr => (k.block i (Nat.lt_of_lt_of_le hi h.size) hb hr).trans (h.block i hi hb hr)⟩
theorem Kept2.of_grown {w w' : World} {b : Nat} (h : w.grownBy w' (some b)) (row : Option Nat) : Kept2 w w' b row :=
  ⟨h.os, h.tape, h.output, h.size, fun i hi hb _ => h.block i hi (fun e => hb (Option.some.inj e))⟩
theorem Kept2.setCell {a w : World} {b : Nat} {row : Option Nat} (h : Kept2 a w b row) (i : Nat) (v : Value) : Kept2 a (w.setCell ⟨b, i, none⟩ v) b row :=
  h.trans ⟨rfl, rfl, rfl, by simp [World.setCell], fun k _ hb _ => Below.heap_setCell _ _ _ _ hb⟩
theorem Kept2.setRow {a w : World} {b : Nat} {row : Option Nat} (h : Kept2 a w b row) (g : Nat) (cs : Array Value) (hg : some g = row ∨ a.heap.size ≤ g) : Kept2 a (w.setRow g cs) b row :=
  ⟨h.os, h.tape, h.output, by simp [World.setRow]; exact h.size, fun k hk hb hr => by
    rw [setRow_other _ _ _ _ (fun e => by rcases hg with hg | hg; exact hr (by rw [e]; exact hg); omega)]
    exact h.block k hk hb hr⟩

theorem ne_of_tags {w : World} {a b : Nat} {c d : Array Value} {s t : TypeId} (ha : w.heap[a]? = some (.cells c s (0, 0))) (hb : w.heap[b]? = some (.cells d t (0, 0))) (h : s ≠ t) : a ≠ b := by
  intro e; subst e; rw [ha] at hb; injection hb with hb; injection hb with _ hb; exact h hb

/-- 'copy(b.buf[m:], p)' behind the growing: what the sink holds. -/
theorem sink_written {N : Nat} {W : World} {b g l n cap : Nat} {lr : Int} {cur : Array Value} {bs cs : List Value}
    (hb : W.heap[b]? = some (.cells #[.slice (some ⟨g, 0, none⟩) (l + n) cap, .int .i64 0, .int .i8 lr] 57 (0, 0))) (hg : W.heap[g]? = some (.cells cur 5 (0, 0))) (hNg : N ≤ g)
    (hcs : cur.size = cap) (hl : bs.length = l) (htk : cur.toList.take l = bs) (hcap : l + n ≤ cap) (hm : cap ≤ maxLen) (hn : cs.length = n) (h1 : 1 ≤ n) :
    Sink N (W.setRow g (cur.toList.take l ++ (cs ++ cur.toList.drop (l + n))).toArray) b (.slice (some ⟨g, 0, none⟩) (l + n) cap) (bs ++ cs) := by
  have hne : g ≠ b := ne_of_tags hg hb (by decide)
  have hlen : (bs ++ cs).length = l + n := by simp [hl, hn]
  refine ⟨⟨lr, ?_⟩, ⟨by rw [Nat.mul_one], .inr ⟨g, cap, _, by rw [hlen], hNg, setRow_heap W g cur _ 5 (0, 0) hg, by rw [hlen]; exact hcap, hm, ?_, ?_⟩⟩, .inr (by rw [hlen]; omega)⟩
  · rw [setRow_other _ _ _ _ (Ne.symm hne)]; exact hb
  · rw [htk]; simp [hl, hn]; omega
  · rw [hlen, Nat.mul_one, htk]
    simp only
    rw [← List.append_assoc, List.take_append_of_le_length (by rw [hlen]; exact Nat.le_refl _), List.take_of_length_le (by rw [hlen]; exact Nat.le_refl _)]

theorem src_take {w : World} {R : Nat} {cur : Array Value} {t : TypeId} (h : w.heap[R]? = some (.cells cur t (0, 0))) (n : Nat) : ∀ j v, (cur.toList.take n)[j]? = some v → w.cell? ((⟨R, 0, none⟩ : Addr).add j) = some v := by
  intro j v hj
  have hadd : (⟨R, 0, none⟩ : Addr).add j = ⟨R, j, none⟩ := by unfold Addr.add; split <;> simp_all
  rw [hadd, cell_of_row _ _ _ _ _ _ h]
  rw [List.getElem?_take] at hj
  split at hj
  · simpa using hj
  · cases hj

/-- Nothing is written. -/
theorem Write_zero (N b : Nat) (sv : Value) (bs : List Value) (R c : Nat) (w : World) (hS : Sink N w b sv bs) :
    Calls Try.prog 59 #[.pointer (some ⟨b, 0, none⟩), .slice (some ⟨R, 0, none⟩) 0 c] w fun e w' => e = .returned (.tuple #[.int .i64 0, .nilIface]) ∧ Sink N w' b sv bs ∧ w.grownBy w' (some b) := by
  obtain ⟨⟨lr, hbk⟩, hown, hpos⟩ := hS
  obtain ⟨ao, cap, hsv, hlc, hcm⟩ : ∃ ao cap, sv = .slice ao bs.length cap ∧ bs.length ≤ cap ∧ cap ≤ maxLen := by
    rcases hown.2 with ⟨h, h0⟩ | ⟨g, cap, cur, h, _, _, h1, h2, _⟩
    · exact ⟨none, 0, by rw [h, h0], by omega, Nat.zero_le _⟩
    · exact ⟨_, cap, h, h1, h2⟩
  have hce : ∀ d dLen dCap W, (Builtin.copy_ #[22, 22] 3 #[.slice d dLen dCap, .slice (some ⟨R, 0, none⟩) 0 c]).run Try.prog W = .ok (goInt 0) W := fun d dLen dCap W => run_copy_none W 22 22 3 5 d (some ⟨R, 0, none⟩) dLen dCap 0 c Try.underlying22 size5 (by simp)
  have hb1 : (w.setCell ⟨b, 2, none⟩ (.int .i8 0)).heap[b]? = some (.cells #[.slice ao bs.length cap, .int .i64 0, .int .i8 0] 57 (0, 0)) := by
    have h := heap_setCell_same w b 2 _ _ (.int .i8 0) hbk
    rw [hsv] at h; simpa using h
  have hb2 : ((w.setCell ⟨b, 2, none⟩ (.int .i8 0)).setCell ⟨b, 0, none⟩ (.slice ao bs.length cap)).heap[b]? = some (.cells #[.slice ao bs.length cap, .int .i64 0, .int .i8 0] 57 (0, 0)) := by
    have h := heap_setCell_same _ b 0 _ _ (.slice ao bs.length cap) hb1
    simpa using h
  have hg2 : w.grownBy ((w.setCell ⟨b, 2, none⟩ (.int .i8 0)).setCell ⟨b, 0, none⟩ (.slice ao bs.length cap)) (some b) := grownBy_setB (grownBy_setB (grownBy_refl w _) 2 _) 0 _
  have hS2 : Sink N ((w.setCell ⟨b, 2, none⟩ (.int .i8 0)).setCell ⟨b, 0, none⟩ (.slice ao bs.length cap)) b sv bs := by
    refine ⟨⟨0, by rw [hsv]; exact hb2⟩, hown.kept hg2 ?_, hpos⟩
    rcases hown.2 with ⟨h, _⟩ | ⟨g, cap', cur, h, _, hg, _⟩
    · left; rw [h]; rfl
    · right
      rw [h]
      intro e
      exact ne_of_tags hg hbk (by decide) (Option.some.inj e)
  have c2 : w.cell? ⟨b, 2, none⟩ = some (.int .i8 lr) := cell_at hbk 2 rfl
  have f2 : w.frozen? ⟨b, 2, none⟩ = false := frozen_of_row _ _ _ _ _ hbk
  have C1 := hid (show (w.setCell ⟨b, 2, none⟩ (.int .i8 0)).cell? ⟨b, 0, none⟩ = some (.slice ao bs.length cap) from cell_at hb1 0 rfl)
  have F1 := hid (show (w.setCell ⟨b, 2, none⟩ (.int .i8 0)).frozen? ⟨b, 0, none⟩ = false from frozen_of_row _ _ _ _ _ hb1)
  have d0 : ((w.setCell ⟨b, 2, none⟩ (.int .i8 0)).setCell ⟨b, 0, none⟩ (.slice ao bs.length cap)).cell? ⟨b, 0, none⟩ = some (.slice ao bs.length cap) := cell_at hb2 0 rfl
  have HS2 := hid hS2
  have HG2 := hid hg2
  have hcm' := hcm
  unfold maxLen at hcm'
  clear hS2 hg2 hb1 hb2 hbk hown hpos hsv
  have T := hid (tryGrow_room b bs.length cap 0 ao _ C1.out F1.out hlc hcm (Nat.zero_le _))
  go_enter Try.func59, Try.ntmps59
  go_wp2_with fail
  refine T.out.mono ?_
  rintro e W1 ⟨rfl, hW1⟩
  rw [Nat.add_zero] at hW1
  rw [← hW1] at HS2 HG2 d0
  clear hW1 C1 F1 T
  by_cases hlcap : bs.length = cap
  · go_wp2
    all_goals (go_ret2; exact ⟨rfl, HS2.out, HG2.out⟩)
  · go_wp2
    all_goals (go_ret2; exact ⟨rfl, HS2.out, HG2.out⟩)

/-- grow, whatever the buffer holds, where there is no room. -/
theorem grow_any (b n : Nat) (lr : Int) (sv : Value) (bs : List Value) (N : Nat) (w : World) (hbk : w.heap[b]? = some (.cells #[sv, .int .i64 0, .int .i8 lr] 57 (0, 0))) (hown : w.ownsRow N 5 1 sv bs.length bs) (hpos : sv = .slice none 0 0 ∨ 1 ≤ bs.length)
    (h1 : ∀ v ∈ bs, v.oneCell' = true) (hn : 1 ≤ n) (hroom : ∀ g l cap, sv = .slice (some ⟨g, 0, none⟩) l cap → cap - l < n) (hlim : bs.length + n ≤ 140737488355328) :
    Calls Try.prog 61 #[.pointer (some ⟨b, 0, none⟩), .int .i64 n] w fun e w' => e = .returned (.int .i64 bs.length) ∧ Grew w w' b bs.length n bs := by
  rcases hown.2 with ⟨rfl, h0⟩ | ⟨g, cap, cur, rfl, _, hg, hlc, hcm, hcs, htk⟩
  · have hb0 : bs = [] := List.eq_nil_of_length_eq_zero h0
    subst hb0
    by_cases h64 : n ≤ 64
    · exact grow_nil_small b n lr w hbk hn h64
    · exact grow_nil_big b n lr w hbk (by omega) (by simpa using hlim)
  · rw [Nat.mul_one] at hcs htk
    exact grow_row b g bs.length cap n lr cur bs w hbk hg hlc hcm hcs htk h1 (by rcases hpos with h | h; cases h; exact h) hn (hroom _ _ _ rfl) hlim

set_option maxHeartbeats 1000000 in
theorem Write_room (N b g l cap : Nat) (lr : Int) (cur : Array Value) (bs : List Value) (R n c : Nat) (curR : Array Value) (w : World)
    (hbk : w.heap[b]? = some (.cells #[.slice (some ⟨g, 0, none⟩) l cap, .int .i64 0, .int .i8 lr] 57 (0, 0))) (hg : w.heap[g]? = some (.cells cur 5 (0, 0))) (hNg : N ≤ g)
    (hcs : cur.size = cap) (hl : bs.length = l) (htk : cur.toList.take l = bs) (hlc : l ≤ cap) (hcm : cap ≤ maxLen) (hR : w.heap[R]? = some (.cells curR 5 (0, 0))) (hn : 1 ≤ n) (hnR : n ≤ curR.size)
    (h1 : ∀ v ∈ curR.toList.take n, v.oneCell' = true) (hroom : n ≤ cap - l) :
    Calls Try.prog 59 #[.pointer (some ⟨b, 0, none⟩), .slice (some ⟨R, 0, none⟩) n c] w fun e w' => e = .returned (.tuple #[.int .i64 n, .nilIface]) ∧ Sink N w' b (.slice (some ⟨g, 0, none⟩) (l + n) cap) (bs ++ curR.toList.take n) ∧ Kept2 w w' b (some g) := by
  have hb1 : (w.setCell ⟨b, 2, none⟩ (.int .i8 0)).heap[b]? = some (.cells #[.slice (some ⟨g, 0, none⟩) l cap, .int .i64 0, .int .i8 0] 57 (0, 0)) := by
    have h := heap_setCell_same w b 2 _ _ (.int .i8 0) hbk
    simpa using h
  have hgb : g ≠ b := ne_of_tags hg hbk (by decide)
  have hRb : R ≠ b := ne_of_tags hR hbk (by decide)
  have T := hid (tryGrow_room b l cap n (some ⟨g, 0, none⟩) (w.setCell ⟨b, 2, none⟩ (.int .i8 0)) (cell_at hb1 0 rfl) (frozen_of_row _ _ _ _ _ hb1) hlc hcm hroom)
  have c2 : w.cell? ⟨b, 2, none⟩ = some (.int .i8 lr) := cell_at hbk 2 rfl
  have f2 : w.frozen? ⟨b, 2, none⟩ = false := frozen_of_row _ _ _ _ _ hbk
  have hcm' := hcm
  unfold maxLen at hcm'
  have hk2 : Kept2 w ((w.setCell ⟨b, 2, none⟩ (.int .i8 0)).setCell ⟨b, 0, none⟩ (.slice (some ⟨g, 0, none⟩) (l + n) cap)) b (some g) := ((Kept2.refl w b _).setCell 2 _).setCell 0 _
  have hb2 : ((w.setCell ⟨b, 2, none⟩ (.int .i8 0)).setCell ⟨b, 0, none⟩ (.slice (some ⟨g, 0, none⟩) (l + n) cap)).heap[b]? = some (.cells #[.slice (some ⟨g, 0, none⟩) (l + n) cap, .int .i64 0, .int .i8 0] 57 (0, 0)) := by
    have h := heap_setCell_same _ b 0 _ _ (.slice (some ⟨g, 0, none⟩) (l + n) cap) hb1
    simpa using h
  have hg2 : ((w.setCell ⟨b, 2, none⟩ (.int .i8 0)).setCell ⟨b, 0, none⟩ (.slice (some ⟨g, 0, none⟩) (l + n) cap)).heap[g]? = some (.cells cur 5 (0, 0)) := by
    rw [Below.heap_setCell _ _ _ _ hgb, Below.heap_setCell _ _ _ _ hgb]; exact hg
  have hR2 : ((w.setCell ⟨b, 2, none⟩ (.int .i8 0)).setCell ⟨b, 0, none⟩ (.slice (some ⟨g, 0, none⟩) (l + n) cap)).heap[R]? = some (.cells curR 5 (0, 0)) := by
    rw [Below.heap_setCell _ _ _ _ hRb, Below.heap_setCell _ _ _ _ hRb]; exact hR
  clear hb1 hgb hRb hbk hg hR
  go_enter Try.func59, Try.ntmps59
  go_wp2_with fail
  refine T.out.mono ?_
  rintro e W1 ⟨rfl, hW1⟩
  rw [← hW1] at hk2 hb2 hg2 hR2
  clear hW1 T
  have hcl : (curR.toList.take n).length = n := by rw [List.length_take, Array.length_toList]; omega
  have hcp := run_copy_row (P := Try.prog) W1 22 22 3 5 g l n (cap - l) ⟨R, 0, none⟩ n c cur 5 (curR.toList.take n) Try.underlying22 size5 hg2 (by rw [hcl]; exact (Nat.min_self n).symm) (src_take hR2 n) (by rw [hcl]; omega) h1
  rw [hcl] at hcp
  have hSf := sink_written (N := N) hb2 hg2 hNg hcs hl htk (by omega) hcm hcl hn
  have hKf := hk2.setRow g (cur.toList.take l ++ (curR.toList.take n ++ cur.toList.drop (l + n))).toArray (.inl rfl)
  have HSf := hid hSf
  have HKf := hid hKf
  have d0 : W1.cell? ⟨b, 0, none⟩ = some (.slice (some ⟨g, 0, none⟩) (l + n) cap) := cell_at hb2 0 rfl
  have hne : ¬ cap = l := by omega
  clear hSf hKf hb2 hg2 hR2 hk2 hcl htk hl hcs c2 f2 h1
  go_wp2
  go_ret2
  exact ⟨rfl, HSf.out, HKf.out⟩

set_option maxHeartbeats 1000000 in
theorem Write_grow (N b : Nat) (lr : Int) (sv : Value) (bs : List Value) (R n c : Nat) (curR : Array Value) (w : World) (hNw : N ≤ w.heap.size)
    (hbk : w.heap[b]? = some (.cells #[sv, .int .i64 0, .int .i8 lr] 57 (0, 0))) (hown : w.ownsRow N 5 1 sv bs.length bs) (hpos : sv = .slice none 0 0 ∨ 1 ≤ bs.length) (hb1 : ∀ v ∈ bs, v.oneCell' = true)
    (hR : w.heap[R]? = some (.cells curR 5 (0, 0))) (hn : 1 ≤ n) (hnR : n ≤ curR.size) (h1 : ∀ v ∈ curR.toList.take n, v.oneCell' = true) (hlim : bs.length + n ≤ 140737488355328)
    (hroom : ∀ ao cap, sv = .slice ao bs.length cap → cap - bs.length < n) :
    Calls Try.prog 59 #[.pointer (some ⟨b, 0, none⟩), .slice (some ⟨R, 0, none⟩) n c] w fun e w' => e = .returned (.tuple #[.int .i64 n, .nilIface]) ∧ ∃ sv' g, sv'.ownBlock = some g ∧ w.heap.size ≤ g ∧ Sink N w' b sv' (bs ++ curR.toList.take n) ∧ w.grownBy w' (some b) := by
  obtain ⟨ao, cap, hsv, hlc, hcm⟩ : ∃ ao cap, sv = .slice ao bs.length cap ∧ bs.length ≤ cap ∧ cap ≤ maxLen := by
    rcases hown.2 with ⟨h, h0⟩ | ⟨g, cap, cur, h, _, _, h1, h2, _⟩
    · exact ⟨none, 0, by rw [h, h0], by omega, Nat.zero_le _⟩
    · exact ⟨_, cap, h, h1, h2⟩
  have hRb : R ≠ b := ne_of_tags hR hbk (by decide)
  have hb1' : (w.setCell ⟨b, 2, none⟩ (.int .i8 0)).heap[b]? = some (.cells #[sv, .int .i64 0, .int .i8 0] 57 (0, 0)) := by
    have h := heap_setCell_same w b 2 _ _ (.int .i8 0) hbk
    simpa using h
  have hgr0 : w.grownBy (w.setCell ⟨b, 2, none⟩ (.int .i8 0)) (some b) := grownBy_setB (grownBy_refl w _) 2 _
  have hown1 : (w.setCell ⟨b, 2, none⟩ (.int .i8 0)).ownsRow N 5 1 sv bs.length bs := by
    refine hown.kept hgr0 ?_
    rcases hown.2 with ⟨h, _⟩ | ⟨g, cap', cur, h, _, hg, _⟩
    · left; rw [h]; rfl
    · right
      rw [h]
      intro e
      exact ne_of_tags hg hbk (by decide) (Option.some.inj e)
  have T := hid (tryGrow_none b bs.length cap n ao (w.setCell ⟨b, 2, none⟩ (.int .i8 0)) (by rw [← hsv]; exact cell_at hb1' 0 rfl) hlc hcm (hroom _ _ hsv))
  have G := hid (grow_any b n 0 sv bs N (w.setCell ⟨b, 2, none⟩ (.int .i8 0)) hb1' hown1 hpos hb1 hn (fun g l cap' h => by rw [hsv] at h; injection h with _ h2 h3; subst h3; rw [← h2]; exact hroom _ _ hsv) hlim)
  have hR1 : (w.setCell ⟨b, 2, none⟩ (.int .i8 0)).heap[R]? = some (.cells curR 5 (0, 0)) := by rw [Below.heap_setCell _ _ _ _ hRb]; exact hR
  have HR1 := hid hR1
  have HGR0 := hid hgr0
  have hsz0 : Hid ((w.setCell ⟨b, 2, none⟩ (.int .i8 0)).heap.size = w.heap.size) := by show _ = _; simp [World.setCell]
  have c2 : w.cell? ⟨b, 2, none⟩ = some (.int .i8 lr) := cell_at hbk 2 rfl
  have f2 : w.frozen? ⟨b, 2, none⟩ = false := frozen_of_row _ _ _ _ _ hbk
  clear hown hown1 hb1' hbk hR hR1 hgr0 hroom hpos hb1 hsv
  go_enter Try.func59, Try.ntmps59
  go_wp2_with fail
  refine T.out.mono ?_
  rintro e W1 ⟨rfl, hW1⟩
  rw [← hW1] at G HR1 HGR0 hsz0
  clear hW1 T
  go_wp2_with fail
  refine G.out.mono ?_
  rintro e W2 ⟨rfl, g, cap2, cur, lr2, hb2, hg2, hge, hcs2, htk2, hcap2, hcm2, hgr⟩
  have hlt : R < W1.heap.size := lt_of_heap HR1.out
  have hR2 : W2.heap[R]? = some (.cells curR 5 (0, 0)) := (hgr.block R hlt (fun e => hRb (Option.some.inj e))).trans HR1.out
  have hcl : (curR.toList.take n).length = n := by rw [List.length_take, Array.length_toList]; omega
  have hcp := run_copy_row (P := Try.prog) W2 22 22 3 5 g bs.length n (cap2 - bs.length) ⟨R, 0, none⟩ n c cur 5 (curR.toList.take n) Try.underlying22 size5 hg2 (by rw [hcl]; exact (Nat.min_self n).symm) (src_take hR2 n) (by rw [hcl]; omega) h1
  rw [hcl] at hcp
  have hwg : w.heap.size ≤ g := by have := hsz0.out; omega
  have hSf := sink_written (N := N) hb2 hg2 (by omega) hcs2 rfl htk2 hcap2 hcm2 hcl hn
  have hKf : w.grownBy (W2.setRow g (cur.toList.take bs.length ++ (curR.toList.take n ++ cur.toList.drop (bs.length + n))).toArray) (some b) :=
    ⟨hgr.os.trans HGR0.out.os, hgr.tape.trans HGR0.out.tape, hgr.output.trans HGR0.out.output, by simp [World.setRow]; exact Nat.le_trans HGR0.out.size hgr.size, fun k hk hr => by rw [setRow_other _ _ _ _ (by omega)]; exact (grownBy_trans HGR0.out hgr).block k hk hr⟩
  have HSf := hid hSf
  have HKf := hid hKf
  have d0 : W2.cell? ⟨b, 0, none⟩ = some (.slice (some ⟨g, 0, none⟩) (bs.length + n) cap2) := cell_at hb2 0 rfl
  have hcm3 := hcm2
  unfold maxLen at hcm3
  have hne : ¬ cap2 = bs.length := by omega
  clear hSf hKf hb2 hg2 hR2 hcl htk2 hcs2 c2 f2 h1 G HR1 hgr
  go_wp2
  go_ret2
  exact ⟨rfl, _, g, rfl, hwg, HSf.out, HKf.out⟩

/-- (*bytes.Buffer).Write of the first n cells of the row R: they come behind what the buffer holds; only block b and the buffer's own row turn. -/
theorem Write_any (N b : Nat) (sv : Value) (bs : List Value) (R n c : Nat) (curR : Array Value) (w : World) (hS : Sink N w b sv bs) (hNw : N ≤ w.heap.size) (hb1 : ∀ v ∈ bs, v.oneCell' = true)
    (hR : w.heap[R]? = some (.cells curR 5 (0, 0))) (hRsv : sv.ownBlock ≠ some R) (hnR : n ≤ curR.size) (h1 : ∀ v ∈ curR.toList.take n, v.oneCell' = true) (hlim : bs.length + n ≤ 140737488355328) :
    Calls Try.prog 59 #[.pointer (some ⟨b, 0, none⟩), .slice (some ⟨R, 0, none⟩) n c] w fun e w' => e = .returned (.tuple #[.int .i64 n, .nilIface]) ∧
      ∃ sv', Sink N w' b sv' (bs ++ curR.toList.take n) ∧ sv'.ownBlock ≠ some R ∧ Kept2 w w' b sv.ownBlock := by
  by_cases hn : n = 0
  · subst hn
    refine (Write_zero N b sv bs R c w hS).mono ?_
    rintro e w' ⟨he, hs, hg⟩
    exact ⟨he, sv, by simpa using hs, hRsv, Kept2.of_grown hg _⟩
  · obtain ⟨⟨lr, hbk⟩, hown, hpos⟩ := hS
    by_cases hroom : ∃ g cap, sv = .slice (some ⟨g, 0, none⟩) bs.length cap ∧ n ≤ cap - bs.length
    · obtain ⟨g, cap, rfl, hr⟩ := hroom
      rcases hown.2 with ⟨h, _⟩ | ⟨g', cap', cur, h, hNg, hg, hlc, hcm, hcs, htk⟩
      · cases h
      · injection h with ha _ hc
        injection ha with ha
        injection ha with ha
        subst ha; subst hc
        rw [Nat.mul_one] at hcs htk
        refine (Write_room N b g bs.length cap lr cur bs R n c curR w hbk hg hNg hcs rfl htk hlc hcm hR (by omega) hnR h1 hr).mono ?_
        rintro e w' ⟨he, hs, hk⟩
        exact ⟨he, _, hs, hRsv, hk⟩
    · refine (Write_grow N b lr sv bs R n c curR w hNw hbk hown hpos hb1 hR (by omega) hnR h1 hlim ?_).mono ?_
      · intro ao cap h
        rcases hown.2 with ⟨h', h0⟩ | ⟨g', cap', cur, h', _, _, hlc, _⟩
        · rw [h'] at h
          injection h with _ _ hc
          omega
        · rw [h'] at h
          injection h with _ _ hc
          subst hc
          by_cases hx : n ≤ cap' - bs.length
          · exact absurd ⟨g', cap', h', hx⟩ hroom
          · omega
      · rintro e w' ⟨he, sv', g, hg, hge, hs, hgr⟩
        refine ⟨he, sv', hs, ?_, Kept2.of_grown hgr _⟩
        rw [hg]
        intro e
        have := lt_of_heap hR
        have := Option.some.inj e
        omega

end Go.Proofs.Qxb6612279a
