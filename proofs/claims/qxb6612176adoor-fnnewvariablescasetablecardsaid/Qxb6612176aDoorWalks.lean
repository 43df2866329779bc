/- The walks of seat b6612176aD: FnNewVariablesCaseTable and its callees. -/
import Derived.Test.Qxb6612176aDoorRows
import Derived.WalkKit
import Derived.WalkSpells
import Derived.WalkLawsBesides
import Derived.Deep.RegionWith
import Derived.BigQuiet
import Derived.BigRegion
namespace Go.Proofs.Qxb6612176aDoor
open Go.RowKit

theorem hid {p : Prop} (h : p) : Hid p := h

set_option maxHeartbeats 400000 in
theorem Itoa_two (w : World) : Calls Tryd.prog 9 #[.int .i64 2] w fun e w' => e = .returned (.string ⟨#[50]⟩) ∧ w' = w := by
  go_enter Tryd.func9, Tryd.ntmps9
  go_wp2
  go_ret
  exact ⟨by kernel_rfl, rfl⟩

def defObj (nm vr : ByteArray) (l c : Int) : Obj := .cells #[.string nm, .int .i64 l, .int .i64 c, .slice none 0 0, .pointer none, .string vr] 38

set_option maxHeartbeats 400000 in
theorem TypeDef_any (nm vr : ByteArray) (l c : Int) (w : World) : Calls Tryd.prog 5 #[.string nm, .int .i64 l, .int .i64 c, .string vr] w fun e w' => e = .returned (.pointer (some ⟨w.heap.size, 0, none⟩)) ∧ w' = w.alloc (defObj nm vr l c) := by
  go_enter Tryd.func5, Tryd.ntmps5
  go_wp2
  go_ret
  exact ⟨rfl, rfl⟩

/-- The world ahead of the loop. -/
def W2 (w : World) (s : ByteArray) : World := (w.alloc (.cells #[.int .u8 0, .int .i32 0, .string ⟨#[]⟩, .int .u8 0, .int .i32 0, .string ⟨#[]⟩, .int .u8 0, .int .i32 0, .string ⟨#[]⟩, .slice none 0 0, .pointer none, .map none] 40)).alloc (.cells #[.int .u8 0, .int .i32 0, .string s, .int .u8 0, .int .i32 0, .string ⟨#[84, 121, 112, 101]⟩, .int .u8 0, .int .i32 0, .string ⟨#[85, 115, 101, 114]⟩, .slice none 0 0, .pointer none, .map none] 40)

set_option maxHeartbeats 400000 in
theorem newVariables_other (n : Nat) (vr : ByteArray) (w : World) (hc : w.cell? ⟨n, 5, none⟩ = some (.string vr)) (hn : n < w.heap.size) (h1 : (vr.toList == [84, 121, 112, 101]) = false) (h2 : (vr.toList == [85, 115, 101, 114]) = false) :
    Calls Tryd.prog 8 #[.pointer (some ⟨n, 0, none⟩)] w fun e w' => e = .returned (.agg #[.int .u8 0, .int .i32 0, .string vr, .int .u8 0, .int .i32 0, .string ⟨#[84, 121, 112, 101]⟩, .int .u8 0, .int .i32 0, .string ⟨#[85, 115, 101, 114]⟩, .slice none 0 0, .pointer none, .map none]) ∧ w' = (w.alloc (.cells #[.int .u8 0, .int .i32 0, .string vr, .int .u8 0, .int .i32 0, .string ⟨#[84, 121, 112, 101]⟩, .int .u8 0, .int .i32 0, .string ⟨#[85, 115, 101, 114]⟩, .slice none 0 0, .pointer none, .map none] 40)).alloc (.cells #[.int .u8 0, .int .i32 0, .string vr, .int .u8 0, .int .i32 0, .string ⟨#[84, 121, 112, 101]⟩, .int .u8 0, .int .i32 0, .string ⟨#[85, 115, 101, 114]⟩, .slice none 0 0, .pointer none, .map none] 40) := by
  go_enter Tryd.func8, Tryd.ntmps8
  go_wp2
  go_loopw [4] (fun i wr => i = .int .i64 2 ∧ wr = W2 w vr) (fun _ _ => 0)
  case atStart => exact ⟨rfl, rfl⟩
  case round =>
    obtain ⟨rfl, rfl⟩ := hrel
    unfold W2
    go_wp2
    exact bodyPost_ret (v := .agg #[.int .u8 0, .int .i32 0, .string vr, .int .u8 0, .int .i32 0, .string ⟨#[84, 121, 112, 101]⟩, .int .u8 0, .int .i32 0, .string ⟨#[85, 115, 101, 114]⟩, .slice none 0 0, .pointer none, .map none]) (by simp [results, Tryd.results8, go_sem]) rfl ⟨rfl, rfl⟩

theorem catType : (⟨#[84, 121, 112, 101]⟩ : ByteArray) ++ ⟨#[50]⟩ = ⟨#[84, 121, 112, 101, 50]⟩ := by kernel_rfl
theorem catUser : (⟨#[85, 115, 101, 114]⟩ : ByteArray) ++ ⟨#[50]⟩ = ⟨#[85, 115, 101, 114, 50]⟩ := by kernel_rfl

set_option maxHeartbeats 2000000 in
theorem newVariables_type (n : Nat) (w : World) (hc : w.cell? ⟨n, 5, none⟩ = some (.string ⟨#[84, 121, 112, 101]⟩)) (hn : n < w.heap.size) :
    Calls Tryd.prog 8 #[.pointer (some ⟨n, 0, none⟩)] w fun e w' => e = .returned (.agg #[.int .u8 0, .int .i32 0, .string ⟨#[84, 121, 112, 101, 50]⟩, .int .u8 0, .int .i32 0, .string ⟨#[84, 121, 112, 101]⟩, .int .u8 0, .int .i32 0, .string ⟨#[85, 115, 101, 114]⟩, .slice none 0 0, .pointer none, .map none]) ∧ w' = ((w.alloc (.cells #[.int .u8 0, .int .i32 0, .string ⟨#[84, 121, 112, 101, 50]⟩, .int .u8 0, .int .i32 0, .string ⟨#[84, 121, 112, 101]⟩, .int .u8 0, .int .i32 0, .string ⟨#[85, 115, 101, 114]⟩, .slice none 0 0, .pointer none, .map none] 40)).alloc (.cells #[.int .u8 0, .int .i32 0, .string ⟨#[84, 121, 112, 101, 50]⟩, .int .u8 0, .int .i32 0, .string ⟨#[84, 121, 112, 101]⟩, .int .u8 0, .int .i32 0, .string ⟨#[85, 115, 101, 114]⟩, .slice none 0 0, .pointer none, .map none] 40)).drew := by
  go_enter Tryd.func8, Tryd.ntmps8
  go_wp2
  go_loopw [4] (fun i wr => (i = .int .i64 2 ∧ wr = W2 w ⟨#[84, 121, 112, 101]⟩) ∨ (i = .int .i64 3 ∧ wr = (W2 w ⟨#[84, 121, 112, 101, 50]⟩).drew)) (fun i _ => (3 - intOf i).toNat)
  case atStart => exact .inl ⟨rfl, rfl⟩
  case round =>
    rcases hrel with ⟨rfl, rfl⟩ | ⟨rfl, rfl⟩
    · unfold W2
      go_wp2
      go_region_with (
        go_at_call 9
        refine (Itoa_two _).mono ?_
        rintro e w' ⟨rfl, rfl⟩)
      all_goals (
        go_wp2
        exact ⟨.inr ⟨rfl, by rw [catType]⟩, by decide⟩)
    · unfold W2
      go_wp2
      exact bodyPost_ret (v := .agg #[.int .u8 0, .int .i32 0, .string ⟨#[84, 121, 112, 101, 50]⟩, .int .u8 0, .int .i32 0, .string ⟨#[84, 121, 112, 101]⟩, .int .u8 0, .int .i32 0, .string ⟨#[85, 115, 101, 114]⟩, .slice none 0 0, .pointer none, .map none]) (by simp [results, Tryd.results8, go_sem]) rfl ⟨rfl, rfl⟩

set_option maxHeartbeats 2000000 in
theorem newVariables_user (n : Nat) (w : World) (hc : w.cell? ⟨n, 5, none⟩ = some (.string ⟨#[85, 115, 101, 114]⟩)) (hn : n < w.heap.size) :
    Calls Tryd.prog 8 #[.pointer (some ⟨n, 0, none⟩)] w fun e w' => e = .returned (.agg #[.int .u8 0, .int .i32 0, .string ⟨#[85, 115, 101, 114, 50]⟩, .int .u8 0, .int .i32 0, .string ⟨#[84, 121, 112, 101]⟩, .int .u8 0, .int .i32 0, .string ⟨#[85, 115, 101, 114]⟩, .slice none 0 0, .pointer none, .map none]) ∧ w' = ((w.alloc (.cells #[.int .u8 0, .int .i32 0, .string ⟨#[85, 115, 101, 114, 50]⟩, .int .u8 0, .int .i32 0, .string ⟨#[84, 121, 112, 101]⟩, .int .u8 0, .int .i32 0, .string ⟨#[85, 115, 101, 114]⟩, .slice none 0 0, .pointer none, .map none] 40)).alloc (.cells #[.int .u8 0, .int .i32 0, .string ⟨#[85, 115, 101, 114, 50]⟩, .int .u8 0, .int .i32 0, .string ⟨#[84, 121, 112, 101]⟩, .int .u8 0, .int .i32 0, .string ⟨#[85, 115, 101, 114]⟩, .slice none 0 0, .pointer none, .map none] 40)).drew := by
  go_enter Tryd.func8, Tryd.ntmps8
  go_wp2
  go_loopw [4] (fun i wr => (i = .int .i64 2 ∧ wr = W2 w ⟨#[85, 115, 101, 114]⟩) ∨ (i = .int .i64 3 ∧ wr = (W2 w ⟨#[85, 115, 101, 114, 50]⟩).drew)) (fun i _ => (3 - intOf i).toNat)
  case atStart => exact .inl ⟨rfl, rfl⟩
  case round =>
    rcases hrel with ⟨rfl, rfl⟩ | ⟨rfl, rfl⟩
    · unfold W2
      go_wp2
      go_region_with (
        go_at_call 9
        refine (Itoa_two _).mono ?_
        rintro e w' ⟨rfl, rfl⟩)
      all_goals (
        go_wp2
        exact ⟨.inr ⟨rfl, by rw [catUser]⟩, by decide⟩)
    · unfold W2
      go_wp2
      exact bodyPost_ret (v := .agg #[.int .u8 0, .int .i32 0, .string ⟨#[85, 115, 101, 114, 50]⟩, .int .u8 0, .int .i32 0, .string ⟨#[84, 121, 112, 101]⟩, .int .u8 0, .int .i32 0, .string ⟨#[85, 115, 101, 114]⟩, .slice none 0 0, .pointer none, .map none]) (by simp [results, Tryd.results8, go_sem]) rfl ⟨rfl, rfl⟩

end Go.Proofs.Qxb6612176aDoor
