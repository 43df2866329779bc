/- The walks of WritePart, writeWhole, writePart, writeFull (seat b6612279a). -/
import Derived.Test.Qxb6612279aWrote
namespace Go.Proofs.Qxb6612279a
open Go.RowKit

theorem method_ptr (a : Addr) (w : World) : (method 199 29 (.pointer (some a)) "Write").run Try.prog w = .ok (59, .pointer (some a)) w := by kernel_rfl
theorem method_plain (a : Addr) (w : World) : (method 199 67 (.agg #[.iface 29 (.pointer (some a))]) "Write").run Try.prog w = .ok (59, .pointer (some a)) w := by kernel_rfl
theorem method_part (x : Value) (w : World) : (method 199 67 (.agg #[x]) "WritePart").run Try.prog w = .ok (66, .agg #[x]) w := by kernel_rfl

/-- A row that is owned stays owned where its block stands. -/
theorem ownsRow_frame {N : Nat} {w w' : World} {v : Value} {n : Nat} {xs : List Value} (h : w.ownsRow N 5 1 v n xs) (hk : ∀ g, v.ownBlock = some g → w'.heap[g]? = w.heap[g]?) : w'.ownsRow N 5 1 v n xs := by
  refine ⟨h.1, ?_⟩
  rcases h.2 with h | ⟨g, cap, cur, hv, hN, hg, r⟩
  · exact .inl h
  · exact .inr ⟨g, cap, cur, hv, hN, (hk g (by rw [hv]; rfl)).trans hg, r⟩

theorem Sink.frame {N : Nat} {w w' : World} {b : Nat} {sv : Value} {bs : List Value} (h : Sink N w b sv bs) (hb : w'.heap[b]? = w.heap[b]?) (hk : ∀ g, sv.ownBlock = some g → w'.heap[g]? = w.heap[g]?) : Sink N w' b sv bs := by
  obtain ⟨⟨lr, hbk⟩, hown, hpos⟩ := h
  exact ⟨⟨lr, hb.trans hbk⟩, ownsRow_frame hown hk, hpos⟩

theorem ownBlock_lt {N : Nat} {w : World} {v : Value} {n : Nat} {xs : List Value} (h : w.ownsRow N 5 1 v n xs) {g : Nat} (hg : v.ownBlock = some g) : g < w.heap.size ∧ N ≤ g ∧ ∃ cur, w.heap[g]? = some (.cells cur 5 (0, 0)) := by
  rcases h.2 with ⟨hv, _⟩ | ⟨g', cap, cur, hv, hN, hgg, _⟩
  · rw [hv] at hg; cases hg
  · rw [hv] at hg
    have e : g' = g := Option.some.inj hg
    subst e
    exact ⟨lt_of_heap hgg, hN, cur, hgg⟩

theorem Sink.alloc {N : Nat} {w : World} {b : Nat} {sv : Value} {bs : List Value} (h : Sink N w b sv bs) (o : Obj) : Sink N (w.alloc o) b sv bs := by
  obtain ⟨lr, hbk⟩ := h.blk
  exact h.frame (Below.heap_alloc _ _ _ (lt_of_heap hbk)) (fun g hg => Below.heap_alloc _ _ _ (ownBlock_lt h.own hg).1)

theorem Kept2.alloc {a w : World} {b : Nat} {row : Option Nat} (h : Kept2 a w b row) (o : Obj) : Kept2 a (w.alloc o) b row :=
  h.trans ⟨rfl, rfl, rfl, by simp, fun k hk _ _ => Below.heap_alloc _ _ _ hk⟩

set_option maxHeartbeats 400000 in
theorem WritePart_any (N b : Nat) (sv : Value) (bs : List Value) (R n c : Nat) (curR : Array Value) (w : World) (hS : Sink N w b sv bs) (hNw : N ≤ w.heap.size) (hb1 : ∀ v ∈ bs, v.oneCell' = true)
    (hR : w.heap[R]? = some (.cells curR 5 (0, 0))) (hRsv : sv.ownBlock ≠ some R) (hnR : n ≤ curR.size) (h1 : ∀ v ∈ curR.toList.take n, v.oneCell' = true) (hlim : bs.length + n ≤ 140737488355328) :
    Calls Try.prog 66 #[.agg #[.iface 29 (.pointer (some ⟨b, 0, none⟩))], .slice (some ⟨R, 0, none⟩) n c] w fun e w' => e = .returned (.tuple #[.int .i64 n, .nilIface]) ∧
      ∃ sv', Sink N w' b sv' (bs ++ curR.toList.take n) ∧ sv'.ownBlock ≠ some R ∧ Kept2 w w' b sv.ownBlock := by
  have hm := method_ptr
  have hW := hid (Write_any N b sv bs R n c curR (w.alloc (.cells #[.iface 29 (.pointer (some ⟨b, 0, none⟩))] 67)) (hS.alloc _) (by simp; omega) hb1 ((Below.heap_alloc _ _ _ (lt_of_heap hR)).trans hR) hRsv hnR h1 hlim)
  clear hS hb1 hR hRsv hnR h1 hlim hNw
  go_enter Try.func66, Try.ntmps66
  go_wp2_with fail
  refine hW.out.mono ?_
  rintro e w' ⟨rfl, sv', hs, hne, hk⟩
  go_wp2_with fail
  go_ret2
  exact ⟨rfl, sv', hs, hne, ((Kept2.refl w b _).alloc _).trans hk⟩

/-- What lies beside the struct: its row v holds 'held', the sink's row sv what is written; they lie apart. -/
structure Rest (N : Nat) (w : World) (b : Nat) (v sv : Value) (held wr : List Value) : Prop where
  own : ∃ R cap cur, v = .slice (some ⟨R, 0, none⟩) held.length cap ∧ N ≤ R ∧ w.heap[R]? = some (.cells cur 5 (0, 0)) ∧ held.length ≤ cap ∧ cap ≤ maxLen ∧ cur.size = cap ∧ cur.toList.take held.length = held ∧ sv.ownBlock ≠ some R
  sink : Sink N w b sv wr
  ones1 : ∀ x ∈ held, x.oneCell' = true
  ones2 : ∀ x ∈ wr, x.oneCell' = true
  hNw : N ≤ w.heap.size
  hNb : N ≤ b
/-- The struct itself. -/
def Blk (w : World) (ib b : Nat) (v : Value) (wh : Int) (ev : Value) : Prop := w.heap[ib]? = some (.cells #[dstOf b, v, .int .i64 wh, ev] 51 (0, 0))

theorem Kept2.below {N : Nat} {w w' : World} {b : Nat} {row : Option Nat} (h : Kept2 w w' b row) (hNw : N ≤ w.heap.size) (hb : N ≤ b) (hr : ∀ g, row = some g → N ≤ g) : Below N w w' :=
  ⟨h.os, h.tape, h.output, h.size, fun k hk => h.block k (by omega) (by omega) (fun e => by have := hr k e.symm; omega)⟩

/-- What the Write leaves of the struct and its row. -/
theorem after_write {N : Nat} {w w' : World} {ib b : Nat} {v sv sv' : Value} {held wr wr' : List Value} {wh : Int} {ev : Value} {R : Nat} {cur : Array Value}
    (hB : Blk w ib b v wh ev) (h : Rest N w b v sv held wr) (hR : w.heap[R]? = some (.cells cur 5 (0, 0))) (hRsv : sv.ownBlock ≠ some R)
    (_hs : Sink N w' b sv' wr') (hk : Kept2 w w' b sv.ownBlock) : Blk w' ib b v wh ev ∧ w'.heap[R]? = some (.cells cur 5 (0, 0)) ∧ Below N w w' := by
  obtain ⟨lr, hbk⟩ := h.sink.blk
  have hib : ib ≠ b := ne_of_tags hB hbk (by decide)
  have hRb : R ≠ b := ne_of_tags hR hbk (by decide)
  refine ⟨?_, ?_, hk.below h.hNw h.hNb (fun g hg => (ownBlock_lt h.sink.own hg).2.1)⟩
  · exact (hk.block ib (lt_of_heap hB) hib (fun e => by
      obtain ⟨_, _, c, hc⟩ := ownBlock_lt h.sink.own e.symm
      exact ne_of_tags hB hc (by decide) rfl)).trans hB
  · exact (hk.block R (lt_of_heap hR) hRb (fun e => hRsv e.symm)).trans hR

/-- What wrote leaves. -/
theorem after_wrote {N : Nat} {w w' : World} {ib b : Nat} {v sv : Value} {held wr : List Value} {wh : Int} {ev : Value} {R cap n : Nat} {cur cur' : Array Value}
    (hN : N ≤ w.heap.size) (hNb : N ≤ b) (hNi : N ≤ ib) (hNR : N ≤ R) (hB : Blk w ib b v wh ev) (hR : w.heap[R]? = some (.cells cur 5 (0, 0))) (hRsv : sv.ownBlock ≠ some R) (hs : Sink N w b sv wr) (htk : cur.toList.take held.length = held) (hlc : held.length ≤ cap) (hcm : cap ≤ maxLen)
    (o1 : ∀ x ∈ held, x.oneCell' = true) (o2 : ∀ x ∈ wr, x.oneCell' = true)
    (k2 : w'.heap[R]? = some (.cells cur' 5 (0, 0))) (k3 : cur'.size = cap) (k4 : cur'.toList.take (held.length - n) = (cur.toList.take held.length).drop n) (hk : Kept2 w w' ib (some R)) :
    Rest N w' b (.slice (some ⟨R, 0, none⟩) (held.length - n) cap) sv (held.drop n) wr ∧ Below N w w' := by
  obtain ⟨lr, hbk⟩ := hs.blk
  have hib : ib ≠ b := ne_of_tags hB hbk (by decide)
  have hRb : R ≠ b := ne_of_tags hR hbk (by decide)
  have hbel : Below N w w' := hk.below hN hNi (fun g hg => by have := Option.some.inj hg; omega)
  refine ⟨⟨⟨R, cap, cur', by simp, hNR, k2, by simp; omega, hcm, k3, by simp; rw [k4, htk], hRsv⟩, hs.frame (hk.block b (lt_of_heap hbk) (Ne.symm hib) (fun e => hRb (Option.some.inj e).symm)) (fun g hg => ?_), fun x hx => o1 x (List.mem_of_mem_drop hx), o2, Nat.le_trans hN hk.size, hNb⟩, hbel⟩
  obtain ⟨hlt, _, c, hc⟩ := ownBlock_lt hs.own hg
  exact hk.block g hlt (fun e => ne_of_tags hB (e ▸ hc) (by decide) rfl) (fun e => hRsv (by rw [hg, e]))

set_option maxHeartbeats 4000000 in
theorem writeWhole_any (N ib b n : Nat) (v sv : Value) (held wr : List Value) (ev : Value) (w : World) (hNi : N ≤ ib) (hB : Blk w ib b v n ev) (h : Rest N w b v sv held wr) (hn : n ≤ held.length) (hlim : wr.length + held.length ≤ 1099511627776) :
    Calls Try.prog 39 #[.pointer (some ⟨ib, 0, none⟩)] w fun e w' => e = .returned (.bool true) ∧ ∃ v' sv', Blk w' ib b v' (-1) ev ∧ Rest N w' b v' sv' (held.drop n) (wr ++ held.take n) ∧ Below N w w' := by
  obtain ⟨R, cap, cur, hv, hNR, hR, hlc, hcm, hcs, htk, hRsv⟩ := h.own
  have hcm' := hcm
  unfold maxLen at hcm'
  have hm := method_plain
  subst hv
  have c0 : w.cell? ⟨ib, 0, none⟩ = some (.iface 67 (.agg #[.iface 29 (.pointer (some ⟨b, 0, none⟩))])) := cell_at hB 0 rfl
  have c1 : w.cell? ⟨ib, 1, none⟩ = some (.slice (some ⟨R, 0, none⟩) held.length cap) := cell_at hB 1 rfl
  have c2 : w.cell? ⟨ib, 2, none⟩ = some (.int .i64 n) := cell_at hB 2 rfl
  have ht : cur.toList.take n = held.take n := by rw [← htk, List.take_take, Nat.min_eq_left hn]
  have hdec : decide ((n : Int) < 0) = false := by simp
  have hWr : ∀ W, W.heap = w.heap → W.os = w.os → W.tape = w.tape → W.output = w.output → Calls Try.prog 59 #[.pointer (some ⟨b, 0, none⟩), .slice (some ⟨R, 0, none⟩) n cap] W fun e w' => e = .returned (.tuple #[.int .i64 n, .nilIface]) ∧
      ∃ sv', Sink N w' b sv' (wr ++ held.take n) ∧ sv'.ownBlock ≠ some R ∧ Kept2 w w' b sv.ownBlock := by
    intro W e1 e2 e3 e4
    have hk0 : Kept2 w W b sv.ownBlock := ⟨e2, e3, e4, by rw [e1]; exact Nat.le_refl _, fun k _ _ _ => by rw [e1]⟩
    rw [← ht]
    refine (Write_any N b sv wr R n cap cur W (h.sink.frame (by rw [e1]) (fun g _ => by rw [e1])) (by rw [e1]; exact h.hNw) h.ones2 (by rw [e1]; exact hR) hRsv (by omega) (by rw [ht]; exact fun x hx => h.ones1 x (List.mem_of_mem_take hx)) (by omega)).mono ?_
    rintro e w' ⟨he, sv', hs, hne, hk⟩
    exact ⟨he, sv', hs, hne, hk0.trans hk⟩
  have HW := hid hWr
  clear hWr
  go_enter Try.func39, Try.ntmps39
  go_wp2_with fail
  go_region_with (
    go_at_call 59
    refine (HW.out _ ?_ ?_ ?_ ?_).mono ?_
    exact rfl
    exact rfl
    exact rfl
    exact rfl
    rintro e w1 ⟨rfl, sv1, hs1, hne1, hk1⟩)
  all_goals (
    obtain ⟨B1, R1, L1⟩ := after_write hB h hR hRsv hs1 hk1
    have g2 : w1.cell? ⟨ib, 2, none⟩ = some (.int .i64 n) := cell_at B1 2 rfl
    have HB1 := hid B1
    have HR1 := hid R1
    clear B1 R1 c0 c1 c2 hm hdec HW
    go_wp2_with fail
    refine (wrote_any ib R held.length cap n _ ev n cur w1 HB1.out HR1.out hlc hcm hcs hn (by rw [htk]; exact h.ones1)).mono ?_
    rintro e w2 ⟨rfl, cur', j1, j2, j3, j4, j5⟩
    go_wp2_with fail
    go_ret
    obtain ⟨q1, q2⟩ := after_wrote (N := N) (b := b) (sv := sv1) (held := held) (wr := wr ++ held.take n) (Nat.le_trans h.hNw L1.size) h.hNb hNi hNR HB1.out HR1.out hne1 hs1 htk hlc hcm h.ones1 (fun x hx => by rcases List.mem_append.1 hx with hx | hx; exact h.ones2 x hx; exact h.ones1 x (List.mem_of_mem_take hx)) j2 j3 j4 j5
    exact ⟨rfl, _, sv1, j1, q1, L1.trans q2⟩)

end Go.Proofs.Qxb6612279a
