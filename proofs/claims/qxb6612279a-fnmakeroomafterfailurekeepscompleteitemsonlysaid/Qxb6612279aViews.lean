/- A []byte that came in, as a view (seat b6612279a). -/
import Derived.Test.Qxb6612279aOpen
import Derived.Test.Qxb6612279aCat
namespace Go.Proofs.Qxb6612279a
open Go.RowKit

theorem view_of {w : World} {a : Option Addr} {len cap : Nat} {z : Nat → Nat} (h : IsBytes w a len cap z) : ∃ bs : List Nat, bs.length = len ∧ len ≤ maxLen ∧ View w.heap.size w (.slice a len cap) bs := by
  obtain ⟨hm, h⟩ := h
  rcases h with ⟨rfl, rfl, rfl⟩ | ⟨x, rfl, hlc, hcm, hs⟩
  · exact ⟨[], rfl, hm, View.nil _ _⟩
  · have hl : ((List.range len).map z).length = len := by simp
    refine ⟨(List.range len).map z, hl, hm, some x, cap, by rw [hl], by rw [hl]; exact hm, ?_⟩
    by_cases h0 : len = 0
    · left; subst h0; rfl
    · right
      have hz : ∀ i, i < ((List.range len).map fun i => (z i : Int)).length → w.cell? (x.add i) = some (.int .u8 (((List.range len).map fun i => (z i : Int)).getD i 0)) := by
        intro i hi
        have hi' : i < len := by simpa using hi
        rw [(hs i hi').2]
        simp [hi']
      obtain ⟨b, off, rfl, hc⟩ := ints_at hz (by simp; omega)
      refine ⟨b, off, rfl, World.block_lt_of_cell? w _ (hc 0 (by simp; omega)), fun i y hy => ?_⟩
      have hi : i < len := by
        have := (List.getElem?_eq_some_iff.1 hy).1
        simpa using this
      rw [hc i (by simpa using hi)]
      simp [hi] at hy ⊢
      omega

end Go.Proofs.Qxb6612279a
