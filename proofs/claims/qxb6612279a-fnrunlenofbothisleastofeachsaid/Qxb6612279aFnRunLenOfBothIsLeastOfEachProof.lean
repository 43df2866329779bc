/- Proof of Rows.FnRunLenOfBothIsLeastOfEachSaid: the frame after the kit's proof-skeleton. -/
import Derived.Test.Qxb6612279aOpen
import Derived.Test.Qxb6612279aHead
import Derived.Test.Qxb6612279aBothLaw
namespace Go.Proofs.Qxb6612279a.fnRunLenOfBothIsLeastOfEach
open Go.ChangeShapes Go.WideShapes Go.ChangeAt Go.RowKit

theorem walk (a0 : Option Addr) (len0 cap0 : Nat) (z0 : Nat → Nat) (ps qs : Array Value) (pk qk : Nat → Bool) (w : World) (w0 : IsBytes w a0 len0 cap0 z0) (hps : ps.size = 256) (hqs : qs.size = 256) (hp : ∀ i, i < 256 → ps[i]? = some (.bool (pk i))) (hq : ∀ i, i < 256 → qs[i]? = some (.bool (qk i))) :
    Calls Try.prog 4 #[.slice a0 len0 cap0, .agg ps, .agg qs] w fun e w' => e = .returned (.bool true) ∧ Below w.heap.size w w' := by
  obtain ⟨hm, h⟩ := w0
  by_cases hl : len0 ≤ 1048576
  · rcases h with ⟨rfl, rfl, rfl⟩ | ⟨x, rfl, _, _, hs⟩
    · exact law4_nil ps qs pk qk w hps hqs hp hq
    · exact law4_some x len0 cap0 z0 ps qs pk qk w hps hqs hp hq hl hs
  · exact law4_far a0 len0 cap0 ps qs w hps hqs hm hl

set_option maxRecDepth 100000 in
theorem lifted (os : Os) (started : os.Started) (H : Type) (enc : TypeId × Value → H) :
    ReturnsInHanded {} Try.checked os 4 .any (Rows.fnRunLenOfBothIsLeastOfEachSpec.pre6 enc Try.prog Try.f4 Rows.fnRunLenOfBothIsLeastOfEachRow.domain false) (Rows.fnRunLenOfBothIsLeastOfEachSpec.post enc Try.prog Try.f4 false true false false) := by
  refine returnsInHanded_of_change (C := Try.checked) own started (by kernel_rfl) Try.func4
    (ChangeSpec.witness6 (enc := enc) (C := Try.checked) false ⟨#[], #[.slice none 0 0, .agg (Array.replicate 256 (.bool false)), .agg (Array.replicate 256 (.bool false))], []⟩ 8 (by kernel_rfl) (by kernel_rfl) (by kernel_rfl) (by kernel_rfl)) ?_
  intro W base args ds gs before hval0 hW hcnd _
  have hval : ∀ (j : Nat) t v, Try.f4.params[j]? = some t → args[j]? = some v → Value.okWide Try.prog W .any base t v := hval0
  have hW' := hW
  obtain ⟨p, q, hA0, hV, rfl, hfz, hnd⟩ := hW
  have hA : DataW.TrodAll enc Try.prog W 0 (fun _ => true) true Try.f4.params.toList args.toList ds p := hA0
  rw [Try.params4] at hA hval
  obtain ⟨v0, vs0, d0, ds0, p0, q0, hargs, rfl, rfl, h0, r0⟩ := trodAll_cons hA
  obtain ⟨v1, vs1, d1, ds1, p1, q1, rfl, rfl, rfl, h1, r1⟩ := trodAll_cons r0
  obtain ⟨v2, vs2, d2, ds2, p2, q2, rfl, rfl, rfl, h2, r2⟩ := trodAll_cons r1
  obtain ⟨rfl, rfl, rfl⟩ := trodAll_nil r2
  obtain rfl : args = #[v0, v1, v2] := by cases args; simp_all
  obtain ⟨rfl, rfl⟩ := trodVars_none hV
  have lt0 : ∀ x ∈ p0, x.block < W.heap.size := by obtain ⟨m, hm⟩ := h0; exact DataW.trod_lt m _ _ _ hm
  obtain ⟨a0, len0, cap0, rfl⟩ := okWide_slice Try.underlying22 (hval 0 22 v0 rfl rfl)
  obtain ⟨z0, w0⟩ := open_bytes h0
  have lt1 : ∀ x ∈ p1, x.block < W.heap.size := by obtain ⟨m, hm⟩ := h1; exact DataW.trod_lt m _ _ _ hm
  obtain ⟨cs1, ks1, rfl, sz1, w1⟩ := open_table (hval 1 23 v1 rfl rfl) h1
  have lt2 : ∀ x ∈ p2, x.block < W.heap.size := by obtain ⟨m, hm⟩ := h2; exact DataW.trod_lt m _ _ _ hm
  obtain ⟨cs2, ks2, rfl, sz2, w2⟩ := open_table (hval 2 23 v2 rfl rfl) h2
  clear hA0 hval0
  refine (walk a0 len0 cap0 z0 cs1 cs2 ks1 ks2 W w0 sz1 sz2 w1 w2).mono fun e W' ⟨he, bel⟩ => ?_
  subst he
  exact ⟨_, rfl, _, _, _, [], _, [], hW', trodAll_mk1 (shut_bool Try.underlying4 _), (trodAll_cons_mk (Below.trod laidOut (by kernel_rfl) (of_decide_eq_true (by kernel_rfl)) h0 bel lt0) (trodAll_cons_mk (Below.trod laidOut (by kernel_rfl) (of_decide_eq_true (by kernel_rfl)) h1 bel lt1) (trodAll_cons_mk (Below.trod laidOut (by kernel_rfl) (of_decide_eq_true (by kernel_rfl)) h2 bel lt2) trodAll_mk0))), rfl, bel.frame _, fun h => by cases h⟩

set_option maxRecDepth 100000 in
theorem closed : joinedFacts Try.prog 4 Try.f4 Rows.fnRunLenOfBothIsLeastOfEachSpec Rows.fnRunLenOfBothIsLeastOfEachRow = true := by
  unfold joinedFacts
  rw [head_mayEnter, head_liftsFinal, head_make]
  kernel_rfl

theorem over : Rows.fnRunLenOfBothIsLeastOfEachRow.holds Try.pinned (OpenSpec.ofChange Rows.fnRunLenOfBothIsLeastOfEachSpec) :=
  OpenClaim.holds_of_wide 4 Try.f4 rfl rfl rfl rfl rfl rfl rfl ⟨rfl, rfl, rfl, rfl, rfl⟩ rfl rfl rfl rfl rfl (by kernel_rfl) Try.func4 closed
    (of_decide_eq_true (by kernel_rfl)) (by unfold Func.isWrapper; first | (rw [if_pos (by decide +kernel)]; kernel_rfl) | (rw [if_neg (by decide +kernel)]; exact ⟨rfl, rfl⟩))
    (fun os started H enc _ => lifted os started H enc)

theorem proved : Rows.FnRunLenOfBothIsLeastOfEachSaid := over
end Go.Proofs.Qxb6612279a.fnRunLenOfBothIsLeastOfEach
