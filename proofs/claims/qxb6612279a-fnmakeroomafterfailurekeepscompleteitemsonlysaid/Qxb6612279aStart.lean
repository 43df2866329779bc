/- zzStart, ZZWritten, zzAfterFirst, the bounds' helpers (seat b6612279a). -/
import Derived.Test.Qxb6612279aCat
import Derived.Test.Qxb6612279aDone
namespace Go.Proofs.Qxb6612279a
open Go.RowKit

/-- append(b.Buffer(), part...): the struct stands, the new slice holds the part behind what was held. -/
theorem append_rest {N M : Nat} {w : World} {ib b : Nat} {v0 v sv ev : Value} {wh : Int} {held wr : List Value} (hB : Blk w ib b v0 wh ev) (h : Rest N w b v sv held wr) {a : Option Addr} {m c : Nat} {bs : List Nat} (hV : View M w (.slice a m c) bs) (hlim : held.length + bs.length ≤ 1099511627776) :
    ∃ v1 w1, (Builtin.append_ #[22, 22] 22 #[v, .slice a m c]).run Try.prog w = .ok v1 w1 ∧ Blk w1 ib b v0 wh ev ∧ Rest N w1 b v1 sv (held ++ cells bs) wr ∧ Below N w w1 := by
  obtain ⟨R, cap, cur, hv, hNR, hR, hlc, hcm, hcs, htk, hRsv⟩ := h.own
  subst hv
  obtain ⟨v1, w1, r, ⟨R1, cap1, cur1, hv1, hR1, hl1, hcm1, hcs1, htk1, hd⟩, g⟩ := append_row w R held.length cap cur held hR hlc hcm hcs rfl htk M a m c bs hV hlim
  have hlen : (held ++ cells bs).length = held.length + bs.length := by rw [List.length_append, length_cells]
  obtain ⟨lr, hbk⟩ := h.sink.blk
  have hsvlt : ∀ g', sv.ownBlock = some g' → g' < w.heap.size := fun g' hg' => (ownBlock_lt h.sink.own hg').1
  refine ⟨v1, w1, r, ?_, ⟨⟨R1, cap1, cur1, by rw [hlen]; exact hv1, ?_, hR1, by rw [hlen]; exact hl1, hcm1, hcs1, by rw [hlen]; exact htk1, ?_⟩, h.sink.frame ?_ ?_, ?_, h.ones2, Nat.le_trans h.hNw g.size, h.hNb⟩, ?_⟩
  · exact (g.block ib (lt_of_heap hB) (fun e => ne_of_tags hB (Option.some.inj e ▸ hR) (by decide) rfl)).trans hB
  · have := h.hNw
    rcases hd with ⟨rfl, _⟩ | ⟨hd, _⟩ <;> omega
  · rcases hd with ⟨rfl, _⟩ | ⟨hd, _⟩
    · exact hRsv
    · intro e
      have := hsvlt _ e
      omega
  · exact g.block b (lt_of_heap hbk) (fun e => ne_of_tags hbk (Option.some.inj e ▸ hR) (by decide) rfl)
  · intro g' hg'
    exact g.block g' (hsvlt g' hg') (fun e => hRsv (by rw [hg', e]))
  · intro x hx
    rcases List.mem_append.1 hx with hx | hx
    · exact h.ones1 x hx
    · exact cells_one bs x hx
  · exact ⟨g.os, g.tape, g.output, g.size, fun k hk => g.block k (by have := h.hNw; omega) (fun e => by have := Option.some.inj e; omega)⟩

theorem fresh_facts (w : World) : Blk (freshW w) (w.heap.size + 1 + 1 + 1) w.heap.size (.slice (some ⟨w.heap.size + 1 + 1, 0, none⟩) 0 66560) (-1) .nilIface ∧
    Rest w.heap.size (freshW w) w.heap.size (.slice (some ⟨w.heap.size + 1 + 1, 0, none⟩) 0 66560) (.slice none 0 0) [] [] ∧ Below w.heap.size w (freshW w) := by
  have s1 : (w.alloc (.cells #[.slice none 0 0, .int .i64 0, .int .i8 0] 57)).heap.size = w.heap.size + 1 := by simp
  have hrow : (newW (w.alloc (.cells #[.slice none 0 0, .int .i64 0, .int .i8 0] 57)) w.heap.size).heap[w.heap.size + 1 + 1]? = some (.cells zeroRow 5) := by
    have h := heap_alloc2_new (w.alloc (.cells #[.slice none 0 0, .int .i64 0, .int .i8 0] 57)) (.cells #[dstOf w.heap.size, .slice (some ⟨w.heap.size + 1 + 1, 0, none⟩) 0 66560, .int .i64 (-1), .nilIface] 51) (.cells zeroRow 5)
    rw [s1] at h
    unfold newW
    rw [s1]
    exact h
  have s3 : (newW (w.alloc (.cells #[.slice none 0 0, .int .i64 0, .int .i8 0] 57)) w.heap.size).heap.size = w.heap.size + 1 + 1 + 1 := by unfold newW; simp
  have hbuf : (newW (w.alloc (.cells #[.slice none 0 0, .int .i64 0, .int .i8 0] 57)) w.heap.size).heap[w.heap.size]? = some (.cells #[.slice none 0 0, .int .i64 0, .int .i8 0] 57) := by
    unfold newW
    rw [Below.heap_alloc _ _ _ (by simp; omega), Below.heap_alloc _ _ _ (by simp)]
    exact heap_alloc_new w _
  have hB : (freshW w).heap[w.heap.size + 1 + 1 + 1]? = some (.cells #[dstOf w.heap.size, .slice (some ⟨w.heap.size + 1 + 1, 0, none⟩) 0 66560, .int .i64 (-1), .nilIface] 51) := by
    have h := heap_alloc_new (newW (w.alloc (.cells #[.slice none 0 0, .int .i64 0, .int .i8 0] 57)) w.heap.size) (.cells #[dstOf w.heap.size, .slice (some ⟨w.heap.size + 1 + 1, 0, none⟩) 0 66560, .int .i64 (-1), .nilIface] 51)
    rw [s3] at h
    exact h
  have hrow' : (freshW w).heap[w.heap.size + 1 + 1]? = some (.cells zeroRow 5) := by unfold freshW; rw [Below.heap_alloc _ _ _ (by rw [s3]; omega)]; exact hrow
  have hbuf' : (freshW w).heap[w.heap.size]? = some (.cells #[.slice none 0 0, .int .i64 0, .int .i8 0] 57) := by unfold freshW; rw [Below.heap_alloc _ _ _ (by rw [s3]; omega)]; exact hbuf
  have hbel : Below w.heap.size w (freshW w) := by
    unfold freshW newW
    exact ((((Below.refl _ _).alloc (Nat.le_refl _) _).alloc (by simp) _).alloc (by simp; omega) _).alloc (by simp; omega) _
  refine ⟨hB, ⟨⟨w.heap.size + 1 + 1, 66560, zeroRow, rfl, by omega, hrow', by simp, by unfold maxLen; omega, size_madeCells _ _, by simp, by simp [Value.ownBlock]⟩, ⟨⟨0, hbuf'⟩, World.ownsRow_nil _ _ _ _, .inl rfl⟩, (fun x hx => by cases hx), (fun x hx => by cases hx), hbel.size, Nat.le_refl _⟩, hbel⟩

theorem eql34nil (w : World) : (binOp .eql 34 .nilIface .nilIface).run Try.prog w = .ok (.bool true) w := by kernel_rfl

/-- What stays held of the first event, what has gone out, where the whole items end. -/
def held1 (bs : List Nat) : List Nat := if 65536 ≤ bs.length then [] else bs
def out1 (bs : List Nat) : List Nat := if 65536 ≤ bs.length then bs else []
def whole1 (bs : List Nat) : Int := if 65536 ≤ bs.length then -1 else bs.length

set_option maxHeartbeats 400000 in
theorem zzStart_any (M : Nat) (a : Option Addr) (l c : Nat) (bs : List Nat) (w : World) (hM : M ≤ w.heap.size) (hV : View M w (.slice a l c) bs) (hlim : bs.length ≤ 1048576) :
    Calls Try.prog 15 #[.slice a l c] w fun e w' => ∃ ib b v sv, e = .returned (.tuple #[.pointer (some ⟨ib, 0, none⟩), .pointer (some ⟨b, 0, none⟩), .bool true]) ∧ w.heap.size ≤ ib ∧
      Blk w' ib b v (whole1 bs) .nilIface ∧ Rest w.heap.size w' b v sv (cells (held1 bs)) (cells (out1 bs)) ∧ Below w.heap.size w w' := by
  obtain ⟨B0, R0, L0⟩ := fresh_facts w
  obtain ⟨v1, w1, r1, B1, R1, L1⟩ := append_rest B0 R0 (hV.below L0 hM) (by simp; omega)
  rw [List.nil_append] at R1
  have hD : Calls Try.prog 17 #[.pointer (some ⟨w.heap.size + 1 + 1 + 1, 0, none⟩), v1, .bool true] w1 fun e w' => e = .returned .nilIface ∧ ∃ v sv, Blk w' (w.heap.size + 1 + 1 + 1) w.heap.size v (whole1 bs) .nilIface ∧ Rest w.heap.size w' w.heap.size v sv (cells (held1 bs)) (cells (out1 bs)) ∧ Below w.heap.size w1 w' := by
    have hl := length_cells bs
    by_cases hge : 65536 ≤ bs.length
    · refine (Done_whole w.heap.size (w.heap.size + 1 + 1 + 1) w.heap.size bs.length (-1) _ v1 _ .nilIface (cells bs) [] true w1 (by omega) B1 R1 (by omega) (by simp [hl]) (by omega) (by simp; omega)).mono ?_
      rintro e w' ⟨he, v', sv', B', R', L'⟩
      rw [← hl, List.drop_length, List.take_length, List.nil_append] at R'
      refine ⟨he, v', sv', ?_, ?_, L'⟩
      · simpa [whole1, hge] using B'
      · simpa [held1, out1, hge, cells] using R'
    · refine (Done_keep w.heap.size (w.heap.size + 1 + 1 + 1) w.heap.size (-1) _ v1 _ .nilIface (cells bs) [] true w1 (by omega) B1 R1 (by omega)).mono ?_
      rintro e w' ⟨he, B', R', L'⟩
      refine ⟨he, v1, .slice none 0 0, ?_, ?_, L'⟩
      · simpa [whole1, hge, hl] using B'
      · simpa [held1, out1, hge, cells] using R'
  have c16 := hid (Buffer_any _ _ _ _ _ _ B0)
  have HD := hid hD
  have hL := hid (L0.trans L1)
  have eq := eql34nil
  clear hD B0 R0 L0 B1 R1 L1 hV
  go_enter Try.func15, Try.ntmps15
  go_wp2_with fail
  refine (New_any w).mono ?_
  rintro e w' ⟨rfl, hw'⟩
  rw [← hw'] at c16 r1
  clear hw'
  go_wp2_with fail
  refine c16.out.mono ?_
  rintro e w'' ⟨rfl, rfl⟩
  clear c16
  go_wp2_with (refine Lib.wpList_append_run _ rfl (.tmp 15) (.tmp 16) 22 22 rfl _ _ rfl rfl _ _ r1 ?_)
  refine HD.out.mono ?_
  rintro e w2 ⟨rfl, v, sv, B, R, L⟩
  have HB := hid B
  have HR := hid R
  have HL := hid L
  clear B R L HD r1
  go_wp2_with fail
  go_ret3
  exact ⟨_, _, v, sv, rfl, by omega, HB.out, HR.out, hL.out.trans HL.out⟩

end Go.Proofs.Qxb6612279a
