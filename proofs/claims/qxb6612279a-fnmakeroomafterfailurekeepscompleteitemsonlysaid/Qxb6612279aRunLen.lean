/- The walks of RunLen, its closure, ZZRunLenIn (seat b6612279a). -/
import Derived.Test.Qxb6612279aRows
import Derived.WalkKit
import Derived.WalkSpells
import Derived.WalkLawsBesides
namespace Go.Proofs.Qxb6612279a
open Go.RowKit

theorem hid {p : Prop} (h : p) : Hid p := h

/-- Block B holds the table ks of 256 bools. -/
def Tab (w : World) (B : Nat) (ks : Nat → Bool) : Prop := ∀ i, i < 256 → w.cell? ⟨B, i, none⟩ = some (.bool (ks i))

set_option maxHeartbeats 400000 in
theorem keep_any (B : Nat) (ks : Nat → Bool) (c : Nat) (w : World) (hB : Tab w B ks) (hc : c < 256) :
    Calls Try.prog 31 #[.int .u8 c, .pointer (some ⟨B, 0, none⟩)] w fun e w' => e = .returned (.bool (ks c)) ∧ w' = w := by
  have hcell := hB c hc
  clear hB
  go_enter Try.func31, Try.ntmps31
  go_wp2
  go_ret
  exact ⟨rfl, rfl⟩

/-- r is the length of the longest prefix of the n bytes z that ks keeps. -/
def IsRun (ks : Nat → Bool) (z : Nat → Nat) (n r : Nat) : Prop := r ≤ n ∧ (∀ t, t < r → ks (z t) = true) ∧ (r < n → ks (z r) = false)

/-- The bytes z lie at ⟨b, off⟩. -/
def Bytes (w : World) (b off n : Nat) (z : Nat → Nat) : Prop := ∀ i, i < n → z i < 256 ∧ w.cell? ⟨b, off + i, none⟩ = some (.int .u8 (z i : Int))

theorem run_snoc {ks : Nat → Bool} {z : Nat → Nat} {k : Nat} (h : ∀ t, t < k → ks (z t) = true) (hk : ks (z k) = true) : ∀ t, t < k + 1 → ks (z t) = true := fun t ht => by
  by_cases e : t = k
  · subst e; exact hk
  · exact h t (by omega)

set_option maxHeartbeats 400000 in
theorem RunLen_any (B : Nat) (ks : Nat → Bool) (b off len cap : Nat) (z : Nat → Nat) (w : World) (hB : Tab w B ks) (hz : Bytes w b off len z) (hl : (len : Int) ≤ 9223372036854775807) :
    Calls Try.prog 30 #[.slice (some ⟨b, off, none⟩) len cap, .func (.func 31) #[] #[.pointer (some ⟨B, 0, none⟩)]] w fun e w' => (∃ r : Nat, e = .returned (.int .i64 r) ∧ IsRun ks z len r) ∧ w' = w := by
  go_enter Try.func30, Try.ntmps30
  go_wp2
  go_loop [9] (fun j => ∃ k : Nat, k ≤ len ∧ j = .int .i64 k ∧ Hid (∀ t, t < k → ks (z t) = true)) (fun j => len - (intOf j).toNat)
  case atStart => exact ⟨0, Nat.zero_le _, rfl, fun t ht => absurd ht (Nat.not_lt_zero _)⟩
  case round =>
    obtain ⟨k, hk, rfl, HR⟩ := hrel
    by_cases hlt : k < len
    · have hc := (hz k hlt).2
      have hzk := (hz k hlt).1
      have kc := keep_any B ks (z k) w hB hzk
      clear hB hz
      cases hl : ks (z k) with
      | true =>
        rw [hl] at kc
        have HL : Hid (ks (z k) = true) := hl
        clear hl
        go_wp2_with (go_at_call 31; refine kc.mono ?_; rintro e w' ⟨rfl, rfl⟩)
        go_round
        case rel => exact ⟨k + 1, by omega, by go_num, run_snoc HR HL⟩
        case measure => simp [intOf]; omega
      | false =>
        rw [hl] at kc
        have HL : Hid (ks (z k) = false) := hl
        clear hl
        go_wp2_with (go_at_call 31; refine kc.mono ?_; rintro e w' ⟨rfl, rfl⟩)
        go_ret
        exact ⟨⟨k, rfl, hk, HR, fun _ => HL⟩, rfl⟩
    · have hkl : k = len := by omega
      subst hkl
      clear hB hz
      go_wp2
      go_ret
      exact ⟨⟨k, rfl, Nat.le_refl _, HR, fun h => absurd h (Nat.lt_irrefl _)⟩, rfl⟩

set_option maxHeartbeats 400000 in
theorem RunLen_nil (B : Nat) (ks : Nat → Bool) (z : Nat → Nat) (w : World) :
    Calls Try.prog 30 #[.slice none 0 0, .func (.func 31) #[] #[.pointer (some ⟨B, 0, none⟩)]] w fun e w' => (∃ r : Nat, e = .returned (.int .i64 r) ∧ IsRun ks z 0 r) ∧ w' = w := by
  go_enter Try.func30, Try.ntmps30
  go_wp2
  go_loop [9] (fun j => j = .int .i64 0) (fun _ => 0)
  case atStart => rfl
  case round =>
    subst hrel
    go_wp2
    go_ret
    exact ⟨⟨0, rfl, Nat.le_refl _, fun t ht => absurd ht (Nat.not_lt_zero _), fun h => absurd h (Nat.lt_irrefl _)⟩, rfl⟩

theorem tab_alloc (w : World) (cs : Array Value) (ks : Nat → Bool) (t : TypeId) (hcs : ∀ i, i < 256 → cs[i]? = some (.bool (ks i))) : Tab (w.alloc (.cells cs t)) w.heap.size ks := by
  intro i hi
  rw [cell_of_row _ _ _ cs t (0, 0) (heap_alloc_new w _)]
  exact hcs i hi

theorem Bytes.below {w w' : World} {b off n N : Nat} {z : Nat → Nat} (h : Bytes w b off n z) (hb : Below N w w') (hbN : b < N) : Bytes w' b off n z :=
  fun i hi => ⟨(h i hi).1, (hb.cell (p := ⟨b, off + i, none⟩) hbN).trans (h i hi).2⟩
theorem Tab.below {w w' : World} {B N : Nat} {ks : Nat → Bool} (h : Tab w B ks) (hb : Below N w w') (hbN : B < N) : Tab w' B ks :=
  fun i hi => (hb.cell (p := ⟨B, i, none⟩) hbN).trans (h i hi)

set_option maxHeartbeats 400000 in
theorem ZZRunLenIn_any (cs : Array Value) (ks : Nat → Bool) (b off len cap : Nat) (z : Nat → Nat) (w : World) (hcs : ∀ i, i < 256 → cs[i]? = some (.bool (ks i))) (hb : b < w.heap.size) (hz : Bytes w b off len z) (hl : (len : Int) ≤ 9223372036854775807) :
    Calls Try.prog 12 #[.slice (some ⟨b, off, none⟩) len cap, .agg cs] w fun e w' => (∃ r : Nat, e = .returned (.int .i64 r) ∧ IsRun ks z len r) ∧ w' = w.alloc (.cells cs 23) := by
  have ht := tab_alloc w cs ks 23 hcs
  have hz' : Bytes (w.alloc (.cells cs 23)) b off len z := hz.below ((Below.refl w.heap.size w).alloc (Nat.le_refl _) _) hb
  have kc := RunLen_any w.heap.size ks b off len cap z _ ht hz' hl
  clear hcs hz hz' ht hb
  go_enter Try.func12, Try.ntmps12
  go_wp2_with fail
  refine kc.mono ?_
  rintro e w' ⟨⟨r, rfl, hr⟩, rfl⟩
  go_wp2_with fail
  go_ret
  exact ⟨⟨r, rfl, hr⟩, rfl⟩

set_option maxHeartbeats 400000 in
theorem ZZRunLenIn_nil (cs : Array Value) (ks : Nat → Bool) (z : Nat → Nat) (w : World) :
    Calls Try.prog 12 #[.slice none 0 0, .agg cs] w fun e w' => (∃ r : Nat, e = .returned (.int .i64 r) ∧ IsRun ks z 0 r) ∧ w' = w.alloc (.cells cs 23) := by
  have kc := RunLen_nil w.heap.size ks z (w.alloc (.cells cs 23))
  go_enter Try.func12, Try.ntmps12
  go_wp2_with fail
  refine kc.mono ?_
  rintro e w' ⟨⟨r, rfl, hr⟩, rfl⟩
  go_wp2_with fail
  go_ret
  exact ⟨⟨r, rfl, hr⟩, rfl⟩

end Go.Proofs.Qxb6612279a
