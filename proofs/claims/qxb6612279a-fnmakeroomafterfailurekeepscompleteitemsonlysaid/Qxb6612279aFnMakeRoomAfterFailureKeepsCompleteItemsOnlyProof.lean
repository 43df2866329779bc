/- Proof of Rows.FnMakeRoomAfterFailureKeepsCompleteItemsOnlySaid: the frame after the kit's proof-skeleton. -/
import Derived.Test.Qxb6612279aViews
import Derived.Test.Qxb6612279aHead
import Derived.Test.Qxb6612279aFailLaw
namespace Go.Proofs.Qxb6612279a.fnMakeRoomAfterFailureKeepsCompleteItemsOnly
open Go.ChangeShapes Go.WideShapes Go.ChangeAt Go.RowKit

theorem walk (a0 : Option Addr) (len0 cap0 : Nat) (z0 : Nat → Nat) (a1 : Option Addr) (len1 cap1 : Nat) (z1 : Nat → Nat) (w : World) (w0 : IsBytes w a0 len0 cap0 z0) (w1 : IsBytes w a1 len1 cap1 z1) :
    Calls Try.prog 8 #[.slice a0 len0 cap0, .slice a1 len1 cap1] w fun e w' => e = .returned (.bool true) ∧ Below w.heap.size w w' := by
  obtain ⟨B, rfl, m1, v1⟩ := view_of w0
  obtain ⟨P, rfl, m2, v2⟩ := view_of w1
  by_cases h : B.length + P.length ≤ 1048576
  · by_cases k : B.length ≤ 524288 ∧ P.length ≤ 524288
    · by_cases hF : 65536 ≤ B.length
      · by_cases hT : 65536 ≤ P.length
        · exact law8_case1 a0 a1 cap0 cap1 B P w v1 v2 k.1 k.2 hF hT
        · exact law8_case2 a0 a1 cap0 cap1 B P w v1 v2 k.1 k.2 hF hT
      · by_cases hT : 65536 ≤ B.length + P.length
        · exact law8_case3 a0 a1 cap0 cap1 B P w v1 v2 k.1 k.2 hF hT
        · exact law8_case4 a0 a1 cap0 cap1 B P w v1 v2 k.1 k.2 hF hT
    · exact law8_mid a0 a1 _ cap0 _ cap1 w h k
  · exact law8_far a0 a1 _ cap0 _ cap1 w m1 m2 h

set_option maxRecDepth 100000 in
theorem lifted (os : Os) (started : os.Started) (H : Type) (enc : TypeId × Value → H) :
    ReturnsInHanded {} Try.checked os 8 .any (Rows.fnMakeRoomAfterFailureKeepsCompleteItemsOnlySpec.pre6 enc Try.prog Try.f8 Rows.fnMakeRoomAfterFailureKeepsCompleteItemsOnlyRow.domain false) (Rows.fnMakeRoomAfterFailureKeepsCompleteItemsOnlySpec.post enc Try.prog Try.f8 false true false false) := by
  refine returnsInHanded_of_change (C := Try.checked) own started (by kernel_rfl) Try.func8
    (ChangeSpec.witness6 (enc := enc) (C := Try.checked) false ⟨#[], #[.slice none 0 0, .slice none 0 0], []⟩ 8 (by kernel_rfl) (by kernel_rfl) (by kernel_rfl) (by kernel_rfl)) ?_
  intro W base args ds gs before hval0 hW hcnd _
  have hval : ∀ (j : Nat) t v, Try.f8.params[j]? = some t → args[j]? = some v → Value.okWide Try.prog W .any base t v := hval0
  have hW' := hW
  obtain ⟨p, q, hA0, hV, rfl, hfz, hnd⟩ := hW
  have hA : DataW.TrodAll enc Try.prog W 0 (fun _ => true) true Try.f8.params.toList args.toList ds p := hA0
  rw [Try.params8] at hA hval
  obtain ⟨v0, vs0, d0, ds0, p0, q0, hargs, rfl, rfl, h0, r0⟩ := trodAll_cons hA
  obtain ⟨v1, vs1, d1, ds1, p1, q1, rfl, rfl, rfl, h1, r1⟩ := trodAll_cons r0
  obtain ⟨rfl, rfl, rfl⟩ := trodAll_nil r1
  obtain rfl : args = #[v0, v1] := by cases args; simp_all
  obtain ⟨rfl, rfl⟩ := trodVars_none hV
  have lt0 : ∀ x ∈ p0, x.block < W.heap.size := by obtain ⟨m, hm⟩ := h0; exact DataW.trod_lt m _ _ _ hm
  obtain ⟨a0, len0, cap0, rfl⟩ := okWide_slice Try.underlying22 (hval 0 22 v0 rfl rfl)
  obtain ⟨z0, w0⟩ := open_bytes h0
  have lt1 : ∀ x ∈ p1, x.block < W.heap.size := by obtain ⟨m, hm⟩ := h1; exact DataW.trod_lt m _ _ _ hm
  obtain ⟨a1, len1, cap1, rfl⟩ := okWide_slice Try.underlying22 (hval 1 22 v1 rfl rfl)
  obtain ⟨z1, w1⟩ := open_bytes h1
  clear hA0 hval0
  refine (walk a0 len0 cap0 z0 a1 len1 cap1 z1 W w0 w1).mono fun e W' ⟨he, bel⟩ => ?_
  subst he
  exact ⟨_, rfl, _, _, _, [], _, [], hW', trodAll_mk1 (shut_bool Try.underlying4 _), (trodAll_cons_mk (Below.trod laidOut (by kernel_rfl) (of_decide_eq_true (by kernel_rfl)) h0 bel lt0) (trodAll_cons_mk (Below.trod laidOut (by kernel_rfl) (of_decide_eq_true (by kernel_rfl)) h1 bel lt1) trodAll_mk0)), rfl, bel.frame _, fun h => by cases h⟩

set_option maxRecDepth 100000 in
theorem closed : joinedFacts Try.prog 8 Try.f8 Rows.fnMakeRoomAfterFailureKeepsCompleteItemsOnlySpec Rows.fnMakeRoomAfterFailureKeepsCompleteItemsOnlyRow = true := by
  unfold joinedFacts
  rw [head_mayEnter, head_liftsFinal, head_make]
  kernel_rfl

theorem over : Rows.fnMakeRoomAfterFailureKeepsCompleteItemsOnlyRow.holds Try.pinned (OpenSpec.ofChange Rows.fnMakeRoomAfterFailureKeepsCompleteItemsOnlySpec) :=
  OpenClaim.holds_of_wide 8 Try.f8 rfl rfl rfl rfl rfl rfl rfl ⟨rfl, rfl, rfl, rfl, rfl⟩ rfl rfl rfl rfl rfl (by kernel_rfl) Try.func8 closed
    (of_decide_eq_true (by kernel_rfl)) (by unfold Func.isWrapper; first | (rw [if_pos (by decide +kernel)]; kernel_rfl) | (rw [if_neg (by decide +kernel)]; exact ⟨rfl, rfl⟩))
    (fun os started H enc _ => lifted os started H enc)

theorem proved : Rows.FnMakeRoomAfterFailureKeepsCompleteItemsOnlySaid := over
end Go.Proofs.Qxb6612279a.fnMakeRoomAfterFailureKeepsCompleteItemsOnly
