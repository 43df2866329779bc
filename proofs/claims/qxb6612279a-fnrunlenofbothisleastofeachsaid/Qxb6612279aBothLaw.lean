/- The walk of the law FnRunLenOfBothIsLeastOfEach (seat b6612279a). -/
import Derived.Test.Qxb6612279aRunLaw
namespace Go.Proofs.Qxb6612279a
open Go.RowKit

set_option maxHeartbeats 400000 in
theorem zzBytes13 (v : Option Addr) (len cap : Nat) (ps qs : Array Value) (w : World) (hs : len ≤ maxLen) :
    Calls Try.prog 13 #[.slice v len cap, .agg ps, .agg qs] w fun e w' => e = .returned (.bool (decide (len ≤ 1048576))) ∧ w' = (w.alloc (.cells ps 23)).alloc (.cells qs 23) := by
  unfold maxLen at hs
  by_cases h : len ≤ 1048576
  · have hd : decide (len ≤ 1048576) = true := by simpa using h
    rw [hd]
    clear hd
    go_enter Try.func13, Try.ntmps13
    go_wp2
    go_ret
    exact ⟨rfl, rfl⟩
  · have hd : decide (len ≤ 1048576) = false := by simpa using h
    rw [hd]
    clear hd
    go_enter Try.func13, Try.ntmps13
    go_wp2
    go_ret
    exact ⟨rfl, rfl⟩

/-- The cells of an array of 256 bools, all false. -/
def zeros : Array Value := Array.replicate 256 (.bool false)
theorem run_alloc23 (w : World) : (Instr.alloc 23 true (.tuple #[])).run Try.prog w = .ok (.pointer (some ⟨w.heap.size, 0, none⟩)) (w.alloc (.cells zeros 23)) := by kernel_rfl

theorem wpList_alloc23 {w : World} {ops : Array Oper} {rest : List Oper} {o : Oper} {a : Act} {Q : Exit → Act → World → Prop} (hg : o.guard = none) (hop : o.op = .alloc 23)
    (hK : wpList Try.prog ops Q rest (a.put o.dst (.pointer (some ⟨w.heap.size, 0, none⟩))) (w.alloc (.cells zeros 23))) : wpList Try.prog ops Q (o :: rest) a w := by
  refine wpList_plain hg fun K hK' => ?_
  unfold Oper.wp
  simp only [execOp, hop, run_alloc23, Result.andThen, Sem.run_bind]
  exact hK' _ _ hK

/-- The first k cells hold 'in p and in q'; all are bools. -/
def BothAt (cs : Array Value) (ps qs : Nat → Bool) (k : Nat) : Prop := cs.size = 256 ∧ (∀ i, i < k → cs[i]? = some (.bool (ps i && qs i))) ∧ ∀ i, i < 256 → ∃ b, cs[i]? = some (.bool b)
theorem bothAt_zero (ps qs : Nat → Bool) : BothAt zeros ps qs 0 := ⟨by simp [zeros], fun i hi => absurd hi (Nat.not_lt_zero _), fun i hi => ⟨false, by simp [zeros, hi]⟩⟩
theorem BothAt.step {cs : Array Value} {ps qs : Nat → Bool} {k : Nat} (h : BothAt cs ps qs k) (hk : k < 256) {b : Bool} (hb : b = (ps k && qs k)) : BothAt (cs.setIfInBounds k (.bool b)) ps qs (k + 1) := by
  obtain ⟨h1, h2, h3⟩ := h
  refine ⟨by simpa using h1, fun i hi => ?_, fun i hi => ?_⟩
  · by_cases e : i = k
    · subst e; rw [Array.getElem?_setIfInBounds_self_of_lt (by omega), hb]
    · rw [Array.getElem?_setIfInBounds_ne (Ne.symm e)]; exact h2 i (by omega)
  · by_cases e : i = k
    · subst e; exact ⟨b, by rw [Array.getElem?_setIfInBounds_self_of_lt (by omega)]⟩
    · rw [Array.getElem?_setIfInBounds_ne (Ne.symm e)]; exact h3 i hi

/-- What the loop holds: block g bears the table so far, all below g is as in W. -/
def LoopW (W : World) (g : Nat) (ps qs : Nat → Bool) (k : Nat) (wr : World) : Prop := ∃ cs, wr.heap[g]? = some (.cells cs 23 (0, 0)) ∧ BothAt cs ps qs k ∧ Below g W wr
theorem loopW_zero (W : World) (ps qs : Nat → Bool) : LoopW W W.heap.size ps qs 0 (W.alloc (.cells zeros 23)) :=
  ⟨zeros, heap_alloc_new W _, bothAt_zero ps qs, (Below.refl _ _).alloc (Nat.le_refl _) _⟩
theorem LoopW.cell {W wr : World} {g k : Nat} {ps qs : Nat → Bool} (h : LoopW W g ps qs k wr) (i : Nat) (hi : i < 256) : ∃ b, wr.cell? ⟨g, i, none⟩ = some (.bool b) := by
  obtain ⟨cs, h1, h2, _⟩ := h
  obtain ⟨b, hb⟩ := h2.2.2 i hi
  exact ⟨b, by rw [cell_of_row _ _ _ _ _ _ h1, hb]⟩
theorem LoopW.frozen {W wr : World} {g k : Nat} {ps qs : Nat → Bool} (h : LoopW W g ps qs k wr) (i : Nat) : wr.frozen? ⟨g, i, none⟩ = false := by
  obtain ⟨cs, h1, _, _⟩ := h
  exact frozen_of_row _ _ _ _ _ h1
theorem LoopW.step {W wr : World} {g k : Nat} {ps qs : Nat → Bool} (h : LoopW W g ps qs k wr) (hk : k < 256) {b : Bool} (hb : b = (ps k && qs k)) : LoopW W g ps qs (k + 1) (wr.setCell ⟨g, k, none⟩ (.bool b)) := by
  obtain ⟨cs, h1, h2, h3⟩ := h
  exact ⟨_, heap_setCell_same wr g k cs 23 _ h1, h2.step hk hb, h3.setCell (Nat.le_refl _) _⟩

theorem isRun_both {ps qs : Nat → Bool} {z : Nat → Nat} {n r rp rq : Nat} (h : IsRun (fun i => ps i && qs i) z n r) (hp : IsRun ps z n rp) (hq : IsRun qs z n rq) : r = min rp rq := by
  obtain ⟨a1, a2, a3⟩ := h
  obtain ⟨b1, b2, b3⟩ := hp
  obtain ⟨c1, c2, c3⟩ := hq
  by_cases h1 : r < min rp rq
  · have hr := a3 (by omega)
    simp only [b2 r (by omega), c2 r (by omega)] at hr
    cases hr
  · by_cases h2 : min rp rq < r
    · by_cases h3 : rp ≤ rq
      · have e := a2 rp (by omega)
        have f := b3 (by omega)
        simp only [f, Bool.false_and] at e
        cases e
      · have e := a2 rq (by omega)
        have f := c3 (by omega)
        simp only [f, Bool.and_false] at e
        cases e
    · omega

set_option maxHeartbeats 400000 in
theorem law4_far (v : Option Addr) (len cap : Nat) (ps qs : Array Value) (w : World) (hps : ps.size = 256) (hqs : qs.size = 256) (hs : len ≤ maxLen) (hl : ¬ len ≤ 1048576) :
    Calls Try.prog 4 #[.slice v len cap, .agg ps, .agg qs] w fun e w' => e = .returned (.bool true) ∧ Below w.heap.size w w' := by
  have ip := info23 hps
  have iq := info23 hqs
  clear hps hqs
  have hgp := heap_alloc2_old w (.cells ps 23) (.cells qs 23)
  have hgq := heap_alloc2_new w (.cells ps 23) (.cells qs 23)
  have z := zzBytes13 v len cap ps qs ((w.alloc (.cells ps 23)).alloc (.cells qs 23)) hs
  rw [show decide (len ≤ 1048576) = false by simpa using hl] at z
  go_enter Try.func4, Try.ntmps4
  go_wp2_with (first | (refine wpList_load_row rfl 23 _ rfl w.heap.size rfl 23 ps (0,0) _ hgp Try.underlying23 rfl ip ?_) | (refine wpList_load_row rfl 23 _ rfl (w.heap.size + 1) rfl 23 qs (0,0) _ hgq Try.underlying23 rfl iq ?_))
  refine z.mono ?_
  rintro e w' ⟨rfl, rfl⟩
  go_wp2_with fail
  go_ret
  exact ⟨rfl, ((((Below.refl _ _).alloc (Nat.le_refl _) _).alloc (by simp) _).alloc (by simp; omega) _).alloc (by simp; omega) _⟩

/-- The world ahead of the copy. -/
theorem four_heap (w : World) (P Q : Obj) (n : Nat) :
    let W := ((((w.alloc P).alloc Q).alloc P).alloc Q).alloc (.cells (madeCells #[.int .u8 0] n) 5)
    W.heap[w.heap.size]? = some P ∧ W.heap[w.heap.size + 1]? = some Q ∧ W.heap[w.heap.size + 1 + 1 + 1 + 1]? = some (.cells (madeCells #[.int .u8 0] n).toList.toArray 5 (0, 0)) ∧ Below w.heap.size w W := by
  have s4 : ((((w.alloc P).alloc Q).alloc P).alloc Q).heap.size = w.heap.size + 1 + 1 + 1 + 1 := by simp
  refine ⟨?_, ?_, ?_, ?_⟩
  · rw [Below.heap_alloc _ _ _ (by simp; omega), Below.heap_alloc _ _ _ (by simp; omega), Below.heap_alloc _ _ _ (by simp; omega)]
    exact heap_alloc2_old w P Q
  · rw [Below.heap_alloc _ _ _ (by first | (simp; done) | (simp; omega)), Below.heap_alloc _ _ _ (by first | (simp; done) | (simp; omega)), Below.heap_alloc _ _ _ (by simp)]
    exact heap_alloc2_new w P Q
  · have h := made_heap ((((w.alloc P).alloc Q).alloc P).alloc Q) n
    rwa [s4] at h
  · exact (((((Below.refl _ _).alloc (Nat.le_refl _) _).alloc (by simp) _).alloc (by simp; omega) _).alloc (by simp; omega) _).alloc (by simp; omega) _

theorem four_nil (w : World) (P Q : Obj) :
    let W := ((((w.alloc P).alloc Q).alloc P).alloc Q)
    W.heap[w.heap.size]? = some P ∧ W.heap[w.heap.size + 1]? = some Q ∧ Below w.heap.size w W ∧ w.heap.size + 1 < W.heap.size := by
  refine ⟨?_, ?_, ?_, by first | (simp; done) | (simp; omega)⟩
  · rw [Below.heap_alloc _ _ _ (by simp; omega), Below.heap_alloc _ _ _ (by simp; omega)]
    exact heap_alloc2_old w P Q
  · rw [Below.heap_alloc _ _ _ (by first | (simp; done) | (simp; omega)), Below.heap_alloc _ _ _ (by simp)]
    exact heap_alloc2_new w P Q
  · exact ((((Below.refl _ _).alloc (Nat.le_refl _) _).alloc (by simp) _).alloc (by simp; omega) _).alloc (by simp; omega) _

set_option maxRecDepth 20000 in
set_option maxHeartbeats 1000000 in
theorem law4_some (x : Addr) (len cap : Nat) (z : Nat → Nat) (ps qs : Array Value) (pk qk : Nat → Bool) (w : World) (hps : ps.size = 256) (hqs : qs.size = 256) (hp : ∀ i, i < 256 → ps[i]? = some (.bool (pk i))) (hq : ∀ i, i < 256 → qs[i]? = some (.bool (qk i))) (hl : len ≤ 1048576) (hsrc : Src w x len z) :
    Calls Try.prog 4 #[.slice (some x) len cap, .agg ps, .agg qs] w fun e w' => e = .returned (.bool true) ∧ Below w.heap.size w w' := by
  have ip := info23 hps
  have iq := info23 hqs
  have HP := hid hp
  have HQ := hid hq
  have HS := hid hsrc
  clear hps hqs hp hq hsrc
  have hgp := heap_alloc2_old w (.cells ps 23) (.cells qs 23)
  have hgq := heap_alloc2_new w (.cells ps 23) (.cells qs 23)
  have q := neq22
  have zz := zzBytes13 (some x) len cap ps qs ((w.alloc (.cells ps 23)).alloc (.cells qs 23)) (by unfold maxLen; omega)
  rw [show decide (len ≤ 1048576) = true by simpa using hl] at zz
  have mk := make22 len hl
  have hd0 : decide ((1048576 : Int) < (len : Int)) = false := by simp; omega
  go_enter Try.func4, Try.ntmps4
  go_wp2_with (first | (refine wpList_load_row rfl 23 _ rfl w.heap.size rfl 23 ps (0,0) _ hgp Try.underlying23 rfl ip ?_) | (refine wpList_load_row rfl 23 _ rfl (w.heap.size + 1) rfl 23 qs (0,0) _ hgq Try.underlying23 rfl iq ?_))
  refine zz.mono ?_
  rintro e w' ⟨rfl, rfl⟩
  clear zz hgp hgq
  obtain ⟨f1, f2, f3, f4⟩ := four_heap w (.cells ps 23) (.cells qs 23) len
  have F1 := hid f1
  have F2 := hid f2
  have F3 := hid f3
  have F4 := hid f4
  have HCOP := hid (HS.out.cells f4)
  clear f1 f2 f3 f4
  go_wp2_with (refine wpList_copy_splice rfl (.tmp 27) (.tmp 28) 22 22 rfl 5 Try.underlying22 size5 _ _ _ _ _ _ rfl rfl (w.heap.size + 1 + 1 + 1 + 1) 0 (madeCells #[.int .u8 0] len).toList 5 F3.out (cellsOf z len) (by simp [length_cellsOf, Nat.min_def]) (fun _ => ⟨rfl, x, rfl, HCOP.out⟩) (by simp [length_cellsOf, size_madeCells]) (cellsOf_one z len) (w.heap.size + 1 + 1 + 1 + 1) _ (Below.refl _ _) (Nat.le_refl _) ?_; intro w2 HG2 hB2; refine Hid.out ?_)
  refine hid ?_
  have hgp2 : w2.heap[w.heap.size]? = some (.cells ps 23) := (hB2.block _ (by omega)).trans F1.out
  have hgq2 : w2.heap[w.heap.size + 1]? = some (.cells qs 23) := (hB2.block _ (by omega)).trans F2.out
  have HB2 := hid (F4.out.trans (hB2.mono (by omega)))
  have hrow2 : w2.heap[w.heap.size + 1 + 1 + 1 + 1]? = some (.cells (cellsOf z len).toArray 5 (0, 0)) := by
    have h := HG2.out
    rwa [splice_all _ _ (by rw [made_toList, length_cellsOf])] at h
  have HBY := hid (bytes_of_row hrow2 (fun i hi => (HS.out i hi).1))
  have hlt2 : w.heap.size + 1 + 1 + 1 + 1 < w2.heap.size := (Array.getElem?_eq_some_iff.1 hrow2).1
  have hN : w.heap.size + 1 < w2.heap.size := by omega
  have c12 : Hid (∀ (cs : Array Value) (ks : Nat → Bool) (W : World), (∀ i, i < 256 → cs[i]? = some (.bool (ks i))) → Below w2.heap.size w2 W → Calls Try.prog 12 #[.slice (some ⟨w.heap.size + 1 + 1 + 1 + 1, 0, none⟩) len len, .agg cs] W fun e w' => (∃ r : Nat, e = .returned (.int .i64 r) ∧ IsRun ks z len r) ∧ w' = W.alloc (.cells cs 23)) :=
    fun cs ks W h hb => ZZRunLenIn_any cs ks _ 0 len len z W h (Nat.lt_of_lt_of_le hlt2 hb.size) (HBY.out.below hb hlt2) (by omega)
  clear hrow2 HG2 F1 F2 F3 F4 HCOP hB2 mk HS q
  have TP : Hid (Tab w2 w.heap.size pk) := fun i hi => by rw [cell_of_row _ _ _ ps 23 (0, 0) hgp2]; exact HP.out i hi
  have TQ : Hid (Tab w2 (w.heap.size + 1) qk) := fun i hi => by rw [cell_of_row _ _ _ qs 23 (0, 0) hgq2]; exact HQ.out i hi
  go_wp2_with (refine wpList_alloc23 rfl rfl ?_)
  go_loopw [9] (fun j wr => ∃ k : Nat, k ≤ 256 ∧ j = .int .i64 k ∧ LoopW w2 w2.heap.size pk qk k wr) (fun j _ => 256 - (intOf j).toNat)
  case atStart => exact ⟨0, Nat.zero_le _, rfl, loopW_zero w2 pk qk⟩
  case round =>
    obtain ⟨k, hk, rfl, hL⟩ := hrel
    have HL := hid hL
    clear hL
    by_cases hlt : k < 256
    · obtain ⟨b, hc⟩ := HL.out.cell k hlt
      have hfz := HL.out.frozen k
      have hcp : wr.cell? ⟨w.heap.size, k, none⟩ = some (.bool (pk k)) := by
        obtain ⟨_, _, _, hb⟩ := HL.out
        exact (hb.cell (p := ⟨w.heap.size, k, none⟩) (by show w.heap.size < _; omega)).trans (TP.out k hlt)
      have hcq : wr.cell? ⟨w.heap.size + 1, k, none⟩ = some (.bool (qk k)) := by
        obtain ⟨_, _, _, hb⟩ := HL.out
        exact (hb.cell (p := ⟨w.heap.size + 1, k, none⟩) (by show w.heap.size + 1 < _; omega)).trans (TQ.out k hlt)
      cases hpk : pk k with
      | true =>
        rw [hpk] at hcp
        have E : Hid (qk k = (pk k && qk k)) := by rw [hpk, Bool.true_and]; exact rfl
        clear hpk
        go_wp2
        go_roundw
        case rel => exact ⟨k + 1, by omega, by go_num, HL.out.step hlt E.out⟩
        case measure => simp [intOf]; omega
      | false =>
        rw [hpk] at hcp
        have E : Hid (false = (pk k && qk k)) := by rw [hpk, Bool.false_and]; exact rfl
        clear hpk
        go_wp2
        go_roundw
        case rel => exact ⟨k + 1, by omega, by go_num, HL.out.step hlt E.out⟩
        case measure => simp [intOf]; omega
    · have hk256 : k = 256 := by omega
      subst hk256
      obtain ⟨cs, hcs, ⟨hsz, hbo, _⟩, hb⟩ := HL.out
      have is := info23 hsz
      have HBO := hid hbo
      have HB3 := hid hb
      have h3p : wr.heap[w.heap.size]? = some (.cells ps 23) := (hb.block _ (by omega)).trans hgp2
      have h3q : wr.heap[w.heap.size + 1]? = some (.cells qs 23) := (hb.block _ (by omega)).trans hgq2
      have hlt3 : w2.heap.size < wr.heap.size := (Array.getElem?_eq_some_iff.1 hcs).1
      clear HL hsz hbo hb hgp2 hgq2 TP TQ hlt hk
      have C1 := hid (c12.out cs (fun i => pk i && qk i) wr HBO.out HB3.out)
      have b4 : Hid (Below w2.heap.size w2 (wr.alloc (.cells cs 23))) := HB3.out.alloc (by omega) _
      have C2 := hid (c12.out ps pk (wr.alloc (.cells cs 23)) HP.out b4.out)
      have b5 : Hid (Below w2.heap.size w2 ((wr.alloc (.cells cs 23)).alloc (.cells ps 23))) := b4.out.alloc (by simp; omega) _
      have C3 := hid (c12.out qs qk ((wr.alloc (.cells cs 23)).alloc (.cells ps 23)) HQ.out b5.out)
      have h4p : (wr.alloc (.cells cs 23)).heap[w.heap.size]? = some (.cells ps 23) := (Below.heap_alloc _ _ _ (by omega)).trans h3p
      have h5q : ((wr.alloc (.cells cs 23)).alloc (.cells ps 23)).heap[w.heap.size + 1]? = some (.cells qs 23) := ((Below.heap_alloc _ _ _ (by simp; omega)).trans (Below.heap_alloc _ _ _ (by omega))).trans h3q
      have H4p := hid h4p
      have H5q := hid h5q
      clear h3p h3q h4p h5q
      go_wp2_with (refine wpList_load_row rfl 23 _ rfl w2.heap.size rfl 23 cs (0,0) _ hcs Try.underlying23 rfl is ?_)
      refine C1.out.mono ?_
      rintro e w' ⟨⟨r1, rfl, hr1⟩, rfl⟩
      have R1 := hid hr1
      clear hr1
      go_wp2_with (refine wpList_load_row rfl 23 _ rfl w.heap.size rfl 23 ps (0,0) _ H4p.out Try.underlying23 rfl ip ?_)
      refine C2.out.mono ?_
      rintro e w' ⟨⟨r2, rfl, hr2⟩, rfl⟩
      have R2 := hid hr2
      clear hr2
      go_wp2_with (refine wpList_load_row rfl 23 _ rfl (w.heap.size + 1) rfl 23 qs (0,0) _ H5q.out Try.underlying23 rfl iq ?_)
      refine C3.out.mono ?_
      rintro e w' ⟨⟨r3, rfl, hr3⟩, rfl⟩
      have R3 := hid hr3
      clear hr3
      have hmin := hid (isRun_both R1.out R2.out R3.out)
      have hr1l : r1 ≤ len := R1.out.1
      have b6 : Hid (Below w2.heap.size w2 (((wr.alloc (.cells cs 23)).alloc (.cells ps 23)).alloc (.cells qs 23))) := b5.out.alloc (by simp; omega) _
      have b7 : Hid (Below w.heap.size w (((wr.alloc (.cells cs 23)).alloc (.cells ps 23)).alloc (.cells qs 23))) := HB2.out.trans (b6.out.mono (by omega))
      have HCS : Hid ((((wr.alloc (.cells cs 23)).alloc (.cells ps 23)).alloc (.cells qs 23)).heap[w2.heap.size]? = some (.cells cs 23)) :=
        ((Below.heap_alloc _ _ _ (by simp; omega)).trans ((Below.heap_alloc _ _ _ (by simp; omega)).trans (Below.heap_alloc _ _ _ (by omega)))).trans hcs
      clear hcs H4p H5q C1 C2 C3 R2 R3 ip iq is
      have hfin : Hid (r1 = len ∨ r1 < len) := by show _ ∨ _; omega
      by_cases hm : r3 < r2
      · have e1 : ((r1 : Int) != (r3 : Int)) = false := by have := hmin.out; simp; omega
        have hd2 : decide (len < r1) = false := by simp; omega
        rcases hfin.out with he | he
        · have he' : ((r1 : Int) == (len : Int)) = true := by simp; omega
          clear he
          go_wp2
          go_ret
          exact ⟨rfl, b7.out⟩
        · have he' : ((r1 : Int) == (len : Int)) = false := by simp; omega
          have k1 := (HBY.out.below b6.out hlt2 r1 he).2
          have k0 := (HBY.out r1 he).1
          have k2 : (((wr.alloc (.cells cs 23)).alloc (.cells ps 23)).alloc (.cells qs 23)).cell? ⟨w2.heap.size, z r1, none⟩ = some (.bool false) := by
            rw [cell_of_row _ _ _ _ _ _ HCS.out, HBO.out (z r1) k0, ← R1.out.2.2 he]
          simp only [Nat.zero_add] at k1
          clear HCS HBO
          go_wp2
          go_ret
          exact ⟨rfl, b7.out⟩
      · have e1 : ((r1 : Int) != (r2 : Int)) = false := by have := hmin.out; simp; omega
        have hd2 : decide (len < r1) = false := by simp; omega
        rcases hfin.out with he | he
        · have he' : ((r1 : Int) == (len : Int)) = true := by simp; omega
          clear he
          go_wp2
          go_ret
          exact ⟨rfl, b7.out⟩
        · have he' : ((r1 : Int) == (len : Int)) = false := by simp; omega
          have k1 := (HBY.out.below b6.out hlt2 r1 he).2
          have k0 := (HBY.out r1 he).1
          have k2 : (((wr.alloc (.cells cs 23)).alloc (.cells ps 23)).alloc (.cells qs 23)).cell? ⟨w2.heap.size, z r1, none⟩ = some (.bool false) := by
            rw [cell_of_row _ _ _ _ _ _ HCS.out, HBO.out (z r1) k0, ← R1.out.2.2 he]
          simp only [Nat.zero_add] at k1
          clear HCS HBO
          go_wp2
          go_ret
          exact ⟨rfl, b7.out⟩

set_option maxRecDepth 20000 in
set_option maxHeartbeats 1000000 in
theorem law4_nil (ps qs : Array Value) (pk qk : Nat → Bool) (w : World) (hps : ps.size = 256) (hqs : qs.size = 256) (hp : ∀ i, i < 256 → ps[i]? = some (.bool (pk i))) (hq : ∀ i, i < 256 → qs[i]? = some (.bool (qk i))) :
    Calls Try.prog 4 #[.slice none 0 0, .agg ps, .agg qs] w fun e w' => e = .returned (.bool true) ∧ Below w.heap.size w w' := by
  have ip := info23 hps
  have iq := info23 hqs
  have HP := hid hp
  have HQ := hid hq
  clear hps hqs hp hq
  have hgp := heap_alloc2_old w (.cells ps 23) (.cells qs 23)
  have hgq := heap_alloc2_new w (.cells ps 23) (.cells qs 23)
  have q := neq22
  have zz := zzBytes13 none 0 0 ps qs ((w.alloc (.cells ps 23)).alloc (.cells qs 23)) (Nat.zero_le _)
  go_enter Try.func4, Try.ntmps4
  go_wp2_with (first | (refine wpList_load_row rfl 23 _ rfl w.heap.size rfl 23 ps (0,0) _ hgp Try.underlying23 rfl ip ?_) | (refine wpList_load_row rfl 23 _ rfl (w.heap.size + 1) rfl 23 qs (0,0) _ hgq Try.underlying23 rfl iq ?_))
  refine zz.mono ?_
  rintro e w2 ⟨rfl, hw2⟩
  obtain ⟨hgp2, hgq2, f4, hN⟩ := four_nil w (.cells ps 23) (.cells qs 23)
  rw [← hw2] at hgp2 hgq2 f4 hN
  have HB2 := hid f4
  clear zz hgp hgq hw2 f4
  have c12 : Hid (∀ (cs : Array Value) (ks : Nat → Bool) (W : World), (∀ i, i < 256 → cs[i]? = some (.bool (ks i))) → Below w2.heap.size w2 W → Calls Try.prog 12 #[.slice none 0 0, .agg cs] W fun e w' => (∃ r : Nat, e = .returned (.int .i64 r) ∧ IsRun ks (fun _ => 0) 0 r) ∧ w' = W.alloc (.cells cs 23)) :=
    fun cs ks W _ _ => ZZRunLenIn_nil cs ks (fun _ => 0) W
  have TP : Hid (Tab w2 w.heap.size pk) := fun i hi => by rw [cell_of_row _ _ _ ps 23 (0, 0) hgp2]; exact HP.out i hi
  have TQ : Hid (Tab w2 (w.heap.size + 1) qk) := fun i hi => by rw [cell_of_row _ _ _ qs 23 (0, 0) hgq2]; exact HQ.out i hi
  go_wp2_with (refine wpList_alloc23 rfl rfl ?_)
  go_loopw [9] (fun j wr => ∃ k : Nat, k ≤ 256 ∧ j = .int .i64 k ∧ LoopW w2 w2.heap.size pk qk k wr) (fun j _ => 256 - (intOf j).toNat)
  case atStart => exact ⟨0, Nat.zero_le _, rfl, loopW_zero w2 pk qk⟩
  case round =>
    obtain ⟨k, hk, rfl, hL⟩ := hrel
    have HL := hid hL
    clear hL
    by_cases hlt : k < 256
    · obtain ⟨b, hc⟩ := HL.out.cell k hlt
      have hfz := HL.out.frozen k
      have hcp : wr.cell? ⟨w.heap.size, k, none⟩ = some (.bool (pk k)) := by
        obtain ⟨_, _, _, hb⟩ := HL.out
        exact (hb.cell (p := ⟨w.heap.size, k, none⟩) (by show w.heap.size < _; omega)).trans (TP.out k hlt)
      have hcq : wr.cell? ⟨w.heap.size + 1, k, none⟩ = some (.bool (qk k)) := by
        obtain ⟨_, _, _, hb⟩ := HL.out
        exact (hb.cell (p := ⟨w.heap.size + 1, k, none⟩) (by show w.heap.size + 1 < _; omega)).trans (TQ.out k hlt)
      cases hpk : pk k with
      | true =>
        rw [hpk] at hcp
        have E : Hid (qk k = (pk k && qk k)) := by rw [hpk, Bool.true_and]; exact rfl
        clear hpk
        go_wp2
        go_roundw
        case rel => exact ⟨k + 1, by omega, by go_num, HL.out.step hlt E.out⟩
        case measure => simp [intOf]; omega
      | false =>
        rw [hpk] at hcp
        have E : Hid (false = (pk k && qk k)) := by rw [hpk, Bool.false_and]; exact rfl
        clear hpk
        go_wp2
        go_roundw
        case rel => exact ⟨k + 1, by omega, by go_num, HL.out.step hlt E.out⟩
        case measure => simp [intOf]; omega
    · have hk256 : k = 256 := by omega
      subst hk256
      obtain ⟨cs, hcs, ⟨hsz, hbo, _⟩, hb⟩ := HL.out
      have is := info23 hsz
      have HBO := hid hbo
      have HB3 := hid hb
      have h3p : wr.heap[w.heap.size]? = some (.cells ps 23) := (hb.block _ (by omega)).trans hgp2
      have h3q : wr.heap[w.heap.size + 1]? = some (.cells qs 23) := (hb.block _ (by omega)).trans hgq2
      have hlt3 : w2.heap.size < wr.heap.size := (Array.getElem?_eq_some_iff.1 hcs).1
      clear HL hsz hbo hb hgp2 hgq2 TP TQ hlt hk
      have C1 := hid (c12.out cs (fun i => pk i && qk i) wr HBO.out HB3.out)
      have b4 : Hid (Below w2.heap.size w2 (wr.alloc (.cells cs 23))) := HB3.out.alloc (by omega) _
      have C2 := hid (c12.out ps pk (wr.alloc (.cells cs 23)) HP.out b4.out)
      have b5 : Hid (Below w2.heap.size w2 ((wr.alloc (.cells cs 23)).alloc (.cells ps 23))) := b4.out.alloc (by simp; omega) _
      have C3 := hid (c12.out qs qk ((wr.alloc (.cells cs 23)).alloc (.cells ps 23)) HQ.out b5.out)
      have h4p : (wr.alloc (.cells cs 23)).heap[w.heap.size]? = some (.cells ps 23) := (Below.heap_alloc _ _ _ (by omega)).trans h3p
      have h5q : ((wr.alloc (.cells cs 23)).alloc (.cells ps 23)).heap[w.heap.size + 1]? = some (.cells qs 23) := ((Below.heap_alloc _ _ _ (by simp; omega)).trans (Below.heap_alloc _ _ _ (by omega))).trans h3q
      have H4p := hid h4p
      have H5q := hid h5q
      clear h3p h3q h4p h5q
      go_wp2_with (refine wpList_load_row rfl 23 _ rfl w2.heap.size rfl 23 cs (0,0) _ hcs Try.underlying23 rfl is ?_)
      refine C1.out.mono ?_
      rintro e w' ⟨⟨r1, rfl, hr1⟩, rfl⟩
      have R1 := hid hr1
      clear hr1
      go_wp2_with (refine wpList_load_row rfl 23 _ rfl w.heap.size rfl 23 ps (0,0) _ H4p.out Try.underlying23 rfl ip ?_)
      refine C2.out.mono ?_
      rintro e w' ⟨⟨r2, rfl, hr2⟩, rfl⟩
      have R2 := hid hr2
      clear hr2
      go_wp2_with (refine wpList_load_row rfl 23 _ rfl (w.heap.size + 1) rfl 23 qs (0,0) _ H5q.out Try.underlying23 rfl iq ?_)
      refine C3.out.mono ?_
      rintro e w' ⟨⟨r3, rfl, hr3⟩, rfl⟩
      have R3 := hid hr3
      clear hr3
      have hmin := hid (isRun_both R1.out R2.out R3.out)
      have hr1l : r1 ≤ 0 := R1.out.1
      have b6 : Hid (Below w2.heap.size w2 (((wr.alloc (.cells cs 23)).alloc (.cells ps 23)).alloc (.cells qs 23))) := b5.out.alloc (by simp; omega) _
      have b7 : Hid (Below w.heap.size w (((wr.alloc (.cells cs 23)).alloc (.cells ps 23)).alloc (.cells qs 23))) := HB2.out.trans (b6.out.mono (by omega))
      have HCS : Hid ((((wr.alloc (.cells cs 23)).alloc (.cells ps 23)).alloc (.cells qs 23)).heap[w2.heap.size]? = some (.cells cs 23)) :=
        ((Below.heap_alloc _ _ _ (by simp; omega)).trans ((Below.heap_alloc _ _ _ (by simp; omega)).trans (Below.heap_alloc _ _ _ (by omega)))).trans hcs
      clear hcs H4p H5q C1 C2 C3 R2 R3 ip iq is
      have hr0 : r1 = 0 := by omega
      subst hr0
      by_cases hm : r3 < r2
      · have e1 : ((0 : Int) != (r3 : Int)) = false := by have := hmin.out; simp; omega
        clear hr1l
        go_wp2
        go_ret
        exact ⟨rfl, b7.out⟩
      · have e1 : ((0 : Int) != (r2 : Int)) = false := by have := hmin.out; simp; omega
        clear hr1l
        go_wp2
        go_ret
        exact ⟨rfl, b7.out⟩

end Go.Proofs.Qxb6612279a
