/- Proof of Rows.FnSkipWhileLettersCutSaid: the frame by the kit's proof-skeleton, the walks in Qxb6612721aWalks and Qxb6612721aSkip. -/
import Derived.Test.Qxb6612721aRows
import Derived.Test.Qxb6612721aSkip
import Derived.WalkKit
import Derived.ProofKit
import Derived.OpenShut
import Derived.ShutString
namespace Go.Proofs.Qxb6612721a.fnSkipWhileLettersCut
open Go.ChangeShapes Go.WideShapes Go.ChangeAt Go.RowKit
open Go.ChangeMaps (open_string shut_string)
set_option linter.unusedVariables false      -- a walk need not use every 'w<i>' (that an integer argument fits its kind)

theorem own : ownKnob Try.prog.godebug = none := by kernel_rfl

/-! ### The law's own walk, way by way -/
set_option maxHeartbeats 400000 in
theorem zzBytes_any (s : ByteArray) (i k : Int) (w : World) (hs : s.size ≤ maxLen) :
    Calls Try.prog 6 #[.string s, .int .i64 i, .int .i64 k] w fun e w' => e = .returned (.bool (decide (s.size ≤ 1048576))) ∧ w' = w := by
  unfold maxLen at hs
  by_cases h : s.size ≤ 1048576
  · have hd : decide (s.size ≤ 1048576) = true := by simpa using h
    rw [hd]
    clear hd
    go_enter Try.func6, Try.ntmps6
    go_wp2
    go_ret
    exact ⟨rfl, rfl⟩
  · have hd : decide (s.size ≤ 1048576) = false := by simpa using h
    rw [hd]
    clear hd
    go_enter Try.func6, Try.ntmps6
    go_wp2
    go_ret
    exact ⟨rfl, rfl⟩

/-! ### STEP 1: THE WALK: the Go text returns true. 'Grown w w'': the world has at most new blocks (Derived/RowKit3.lean). Part the cases AHEAD of 'go_enter' where a test parts the walk; take each callee by a contract of your own. -/
set_option maxHeartbeats 800000 in
theorem walk (a0 : ByteArray) (a1 : Int) (a2 : Int) (w0 : a0.size ≤ maxLen) (w1 : (Lit.int .i64 a1).wf = true) (w2 : (Lit.int .i64 a2).wf = true) (w : World) :
    Calls Try.prog 3 #[.string a0, .int .i64 a1, .int .i64 a2] w fun e w' => e = .returned (.bool true) ∧ Grown w w' := by
  obtain ⟨i0, i1⟩ := bounds_i64 w1
  have hmax := w0
  unfold maxLen at hmax
  have zz := zzBytes_any a0 a1 a2
  by_cases hsz : a0.size ≤ 1048576
  · have zy : ∀ w, Calls Try.prog 6 #[.string a0, .int .i64 a1, .int .i64 a2] w fun e w' => e = .returned (.bool true) ∧ w' = w := fun w => by
      have h := zz w w0
      rwa [show decide (a0.size ≤ 1048576) = true by simpa using hsz] at h
    clear zz
    by_cases hi : a1 < 0
    · go_enter Try.func3, Try.ntmps3
      go_wp2_with (go_at_call 6; refine (zy _).mono ?_; rintro e w' ⟨rfl, rfl⟩)
      go_ret
      exact ⟨rfl, Grown.refl _⟩
    · by_cases hk : 0 ≤ a2 ∧ a2 ≤ a0.size
      · obtain ⟨hk0, hk1⟩ := hk
        obtain ⟨i, rfl⟩ : ∃ n : Nat, a1 = n := ⟨a1.toNat, by omega⟩
        obtain ⟨k, rfl⟩ : ∃ n : Nat, a2 = n := ⟨a2.toNat, by omega⟩
        have hkn : k ≤ a0.size := by omega
        have d1 : decide ((k : Int) < 0) = false := by simp
        have d2 : decide (a0.size < k) = false := by simp; omega
        have hsx : (a0.extract 0 k).size ≤ maxLen := by unfold maxLen; simp; omega
        go_enter Try.func3, Try.ntmps3
        go_wp2_with fail
        refine (zy _).mono ?_
        rintro e w' ⟨rfl, rfl⟩
        go_wp2_with fail
        refine (ZZskipLetters_any a0 i _ w0 i1).mono ?_
        rintro e w' ⟨⟨r, rfl, hr⟩, rfl⟩
        have HR : Hid (RunEnd a0 i r) := hr
        clear hr
        go_wp2_with fail
        refine (ZZskipLetters_any _ i _ hsx i1).mono ?_
        rintro e w' ⟨⟨rk, rfl, hrk⟩, rfl⟩
        have HK : Hid (rk = max i (min r k)) := RunEnd.cut hkn HR hrk
        have hrk' := HK.out
        clear hrk
        by_cases c1 : k < r
        · by_cases c2 : k < i
          · have e1 : ((rk : Int) == (i : Int)) = true := by simp; omega
            clear HK hrk'
            go_wp2_with fail
            refine (swLetterRunEnds_any a0 i r _ w0 HR).mono ?_
            rintro e w' ⟨rfl, rfl⟩
            go_wp2_with fail
            go_ret
            exact ⟨rfl, Grown.refl _⟩
          · have e1 : ((rk : Int) == (k : Int)) = true := by simp; omega
            clear HK hrk'
            go_wp2_with fail
            refine (swLetterRunEnds_any a0 i r _ w0 HR).mono ?_
            rintro e w' ⟨rfl, rfl⟩
            go_wp2_with fail
            go_ret
            exact ⟨rfl, Grown.refl _⟩
        · have c2 : ¬ r < i := by have := HR.out.1; omega
          have e1 : ((rk : Int) == (r : Int)) = true := by simp; omega
          clear HK hrk'
          go_wp2_with fail
          refine (swLetterRunEnds_any a0 i r _ w0 HR).mono ?_
          rintro e w' ⟨rfl, rfl⟩
          go_wp2_with fail
          go_ret
          exact ⟨rfl, Grown.refl _⟩
      · by_cases hk0 : a2 < 0
        · go_enter Try.func3, Try.ntmps3
          go_wp2_with (go_at_call 6; refine (zy _).mono ?_; rintro e w' ⟨rfl, rfl⟩)
          go_ret
          exact ⟨rfl, Grown.refl _⟩
        · have hk1 : (a0.size : Int) < a2 := by omega
          go_enter Try.func3, Try.ntmps3
          go_wp2_with (go_at_call 6; refine (zy _).mono ?_; rintro e w' ⟨rfl, rfl⟩)
          go_ret
          exact ⟨rfl, Grown.refl _⟩
  · have zn : ∀ w, Calls Try.prog 6 #[.string a0, .int .i64 a1, .int .i64 a2] w fun e w' => e = .returned (.bool false) ∧ w' = w := fun w => by
      have h := zz w w0
      rwa [show decide (a0.size ≤ 1048576) = false by simpa using hsz] at h
    clear zz
    go_enter Try.func3, Try.ntmps3
    go_wp2_with (go_at_call 6; refine (zn _).mono ?_; rintro e w' ⟨rfl, rfl⟩)
    go_ret
    exact ⟨rfl, Grown.refl _⟩

/-! ### THE ROW's STEP: WRITTEN OUT: LEAVE IT -/
set_option maxRecDepth 100000 in
theorem lifted (os : Os) (started : os.Started) (H : Type) (enc : TypeId × Value → H) :
    ReturnsInHanded {} Try.checked os 3 .any (Rows.fnSkipWhileLettersCutSpec.pre6 enc Try.prog Try.f3 Rows.fnSkipWhileLettersCutRow.domain false) (Rows.fnSkipWhileLettersCutSpec.post enc Try.prog Try.f3 false true false false) := by
  refine returnsInHanded_of_change (C := Try.checked) own started (by kernel_rfl) Try.func3
    (ChangeSpec.witness6 (enc := enc) (C := Try.checked) false ⟨#[], #[.string ByteArray.empty, .int .i64 0, .int .i64 0], []⟩ 8 (by kernel_rfl) (by kernel_rfl) (by kernel_rfl) (by kernel_rfl)) ?_
  intro W base args ds gs before hval0 hW hcnd _
  have hval : ∀ (j : Nat) t v, Try.f3.params[j]? = some t → args[j]? = some v → Value.okWide Try.prog W .any base t v := hval0
  have hW' := hW
  obtain ⟨p, q, hA0, hV, rfl, hfz, hnd⟩ := hW
  have hA : DataW.TrodAll enc Try.prog W 0 (fun _ => true) true Try.f3.params.toList args.toList ds p := hA0
  rw [Try.params3] at hA hval
  obtain ⟨v0, vs0, d0, ds0, p0, q0, hargs, rfl, rfl, h0, r0⟩ := trodAll_cons hA
  obtain ⟨v1, vs1, d1, ds1, p1, q1, rfl, rfl, rfl, h1, r1⟩ := trodAll_cons r0
  obtain ⟨v2, vs2, d2, ds2, p2, q2, rfl, rfl, rfl, h2, r2⟩ := trodAll_cons r1
  obtain ⟨rfl, rfl, rfl⟩ := trodAll_nil r2
  obtain rfl : args = #[v0, v1, v2] := by cases args; simp_all
  obtain ⟨rfl, rfl⟩ := trodVars_none hV
  obtain ⟨a0, rfl, rfl, rfl, w0⟩ := open_string Try.underlying9 (hval 0 9 v0 rfl rfl) h0
  obtain ⟨a1, rfl, rfl, rfl, w1⟩ := open_int Try.underlying3 (hval 1 3 v1 rfl rfl) h1
  obtain ⟨a2, rfl, rfl, rfl, w2⟩ := open_int Try.underlying3 (hval 2 3 v2 rfl rfl) h2
  clear hA0 hval0
  simp only [List.append_nil] at hW'
  refine (walk a0 a1 a2 w0 w1 w2 W).mono fun e W' ⟨he, hg⟩ => ?_
  subst he
  exact ⟨_, rfl, post_of_same (pa := []) (pv := []) hW' (fun _ _ _ => (trodAll_cons_mk (shut_bool Try.underlying4 _) trodAll_mk0)) (fun sp _ => (trodAll_cons_mk (shut_string Try.underlying9 w0) (trodAll_cons_mk (shut_int Try.underlying3 w1) (trodAll_cons_mk (shut_int Try.underlying3 w2) trodAll_mk0)))) (fun _ _ => rfl) rfl
    (hg.frame _) hg.2.1 (ok_one (by kernel_rfl) rfl (okWide_bool_mk Try.underlying4 _))⟩

theorem over : Rows.fnSkipWhileLettersCutRow.holds Try.pinned (OpenSpec.ofChange Rows.fnSkipWhileLettersCutSpec) :=
  OpenClaim.holds_of_wide 3 Try.f3 rfl rfl rfl rfl rfl rfl rfl ⟨rfl, rfl, rfl, rfl, rfl⟩ rfl rfl rfl rfl rfl (by kernel_rfl) Try.func3 (by kernel_rfl)
    (of_decide_eq_true (by kernel_rfl)) (by unfold Func.isWrapper; first | (rw [if_pos (by decide +kernel)]; kernel_rfl) | (rw [if_neg (by decide +kernel)]; exact ⟨rfl, rfl⟩))
    (fun os started H enc _ => lifted os started H enc)

/-- ████ THE STATEMENT ████ -/
theorem proved : Rows.FnSkipWhileLettersCutSaid :=
  over
end Go.Proofs.Qxb6612721a.fnSkipWhileLettersCut
