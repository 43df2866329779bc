/- Proof of Rows.FnRunLenIsLongestKeptPrefixSaid: the frame after the kit's proof-skeleton. -/
import Derived.Test.Qxb6612279aOpen
import Derived.Test.Qxb6612279aHead
namespace Go.Proofs.Qxb6612279a.fnRunLenIsLongestKeptPrefix
open Go.ChangeShapes Go.WideShapes Go.ChangeAt Go.RowKit

theorem walk (a0 : Option Addr) (len0 cap0 : Nat) (z0 : Nat → Nat) (cs : Array Value) (ks : Nat → Bool) (w : World) (w0 : IsBytes w a0 len0 cap0 z0) (sz : cs.size = 256) (hk : ∀ i, i < 256 → cs[i]? = some (.bool (ks i))) :
    Calls Try.prog 3 #[.slice a0 len0 cap0, .agg cs] w fun e w' => e = .returned (.bool true) ∧ Below w.heap.size w w' := by
  obtain ⟨hm, h⟩ := w0
  by_cases hl : len0 ≤ 1048576
  · rcases h with ⟨rfl, rfl, rfl⟩ | ⟨x, rfl, _, _, hs⟩
    · exact law3_nil cs ks w sz
    · exact law3_some x len0 cap0 z0 cs ks w sz hk hl hs
  · exact law3_far a0 len0 cap0 cs w sz hm hl

set_option maxRecDepth 100000 in
theorem lifted (os : Os) (started : os.Started) (H : Type) (enc : TypeId × Value → H) :
    ReturnsInHanded {} Try.checked os 3 .any (Rows.fnRunLenIsLongestKeptPrefixSpec.pre6 enc Try.prog Try.f3 Rows.fnRunLenIsLongestKeptPrefixRow.domain false) (Rows.fnRunLenIsLongestKeptPrefixSpec.post enc Try.prog Try.f3 false true false false) := by
  refine returnsInHanded_of_change (C := Try.checked) own started (by kernel_rfl) Try.func3
    (ChangeSpec.witness6 (enc := enc) (C := Try.checked) false ⟨#[], #[.slice none 0 0, .agg (Array.replicate 256 (.bool false))], []⟩ 8 (by kernel_rfl) (by kernel_rfl) (by kernel_rfl) (by kernel_rfl)) ?_
  intro W base args ds gs before hval0 hW hcnd _
  have hval : ∀ (j : Nat) t v, Try.f3.params[j]? = some t → args[j]? = some v → Value.okWide Try.prog W .any base t v := hval0
  have hW' := hW
  obtain ⟨p, q, hA0, hV, rfl, hfz, hnd⟩ := hW
  have hA : DataW.TrodAll enc Try.prog W 0 (fun _ => true) true Try.f3.params.toList args.toList ds p := hA0
  rw [Try.params3] at hA hval
  obtain ⟨v0, vs0, d0, ds0, p0, q0, hargs, rfl, rfl, h0, r0⟩ := trodAll_cons hA
  obtain ⟨v1, vs1, d1, ds1, p1, q1, rfl, rfl, rfl, h1, r1⟩ := trodAll_cons r0
  obtain ⟨rfl, rfl, rfl⟩ := trodAll_nil r1
  obtain rfl : args = #[v0, v1] := by cases args; simp_all
  obtain ⟨rfl, rfl⟩ := trodVars_none hV
  obtain ⟨a0, len0, cap0, rfl⟩ := okWide_slice Try.underlying22 (hval 0 22 v0 rfl rfl)
  have lt0 : ∀ x ∈ p0, x.block < W.heap.size := by obtain ⟨m, hm⟩ := h0; exact DataW.trod_lt m _ _ _ hm
  obtain ⟨z0, w0⟩ := open_bytes h0
  have lt1 : ∀ x ∈ p1, x.block < W.heap.size := by obtain ⟨m, hm⟩ := h1; exact DataW.trod_lt m _ _ _ hm
  obtain ⟨cs1, ks1, rfl, sz1, w1⟩ := open_table (hval 1 23 v1 rfl rfl) h1
  clear hA0 hval0
  refine (walk a0 len0 cap0 z0 cs1 ks1 W w0 sz1 w1).mono fun e W' ⟨he, bel⟩ => ?_
  subst he
  exact ⟨_, rfl, _, _, _, [], _, [], hW', trodAll_mk1 (shut_bool Try.underlying4 _), (trodAll_cons_mk (Below.trod laidOut (by kernel_rfl) (of_decide_eq_true (by kernel_rfl)) h0 bel lt0) (trodAll_cons_mk (Below.trod laidOut (by kernel_rfl) (of_decide_eq_true (by kernel_rfl)) h1 bel lt1) trodAll_mk0)), rfl, bel.frame _, fun h => by cases h⟩

set_option maxRecDepth 100000 in
theorem closed : joinedFacts Try.prog 3 Try.f3 Rows.fnRunLenIsLongestKeptPrefixSpec Rows.fnRunLenIsLongestKeptPrefixRow = true := by
  unfold joinedFacts
  rw [head_mayEnter, head_liftsFinal, head_make]
  kernel_rfl

theorem over : Rows.fnRunLenIsLongestKeptPrefixRow.holds Try.pinned (OpenSpec.ofChange Rows.fnRunLenIsLongestKeptPrefixSpec) :=
  OpenClaim.holds_of_wide 3 Try.f3 rfl rfl rfl rfl rfl rfl rfl ⟨rfl, rfl, rfl, rfl, rfl⟩ rfl rfl rfl rfl rfl (by kernel_rfl) Try.func3 closed
    (of_decide_eq_true (by kernel_rfl)) (by unfold Func.isWrapper; first | (rw [if_pos (by decide +kernel)]; kernel_rfl) | (rw [if_neg (by decide +kernel)]; exact ⟨rfl, rfl⟩))
    (fun os started H enc _ => lifted os started H enc)

theorem proved : Rows.FnRunLenIsLongestKeptPrefixSaid := over
end Go.Proofs.Qxb6612279a.fnRunLenIsLongestKeptPrefix
