/- ZZnewVariables, isVariableNamedB1 (seat b6612176aD). -/
import Derived.Test.Qxb6612176aDoorWalks
namespace Go.Proofs.Qxb6612176aDoor
open Go.RowKit

set_option maxHeartbeats 400000 in
theorem isVar_yes (s : ByteArray) (w : World) : Calls Tryd.prog 7 #[.agg #[.int .u8 0, .int .i32 0, .string s], .string s] w fun e w' => e = .returned (.bool true) ∧ w' = w.alloc (.cells #[.int .u8 0, .int .i32 0, .string s] 27) := by
  have h : (s.toList == s.toList) = true := by simp
  go_enter Tryd.func7, Tryd.ntmps7
  go_wp2
  go_ret
  exact ⟨rfl, rfl⟩

theorem below6 (w : World) (A B C D E F : Obj) : Below w.heap.size w ((((((w.alloc A).alloc B).alloc C).alloc D).alloc E).alloc F).drew :=
  ((((((((Below.refl _ _).alloc (Nat.le_refl _) _).alloc (by simp) _).alloc (by simp; omega) _).alloc (by simp; omega) _).alloc (by simp; omega) _).alloc (by simp; omega) _).drew)

set_option maxHeartbeats 4000000 in
theorem ZZnew_other (n : Nat) (vr : ByteArray) (w : World) (hc : w.cell? ⟨n, 5, none⟩ = some (.string vr)) (hn : n < w.heap.size) (h1 : (vr.toList == [84, 121, 112, 101]) = false) (h2 : (vr.toList == [85, 115, 101, 114]) = false) :
    Calls Tryd.prog 6 #[.pointer (some ⟨n, 0, none⟩)] w fun e w' => e = .returned (.tuple #[.agg #[.int .u8 0, .int .i32 0, .string vr], .agg #[.int .u8 0, .int .i32 0, .string ⟨#[84, 121, 112, 101]⟩], .agg #[.int .u8 0, .int .i32 0, .string ⟨#[85, 115, 101, 114]⟩], .slice none 0 0, .pointer none, .map none]) ∧ Below w.heap.size w w' := by
  go_enter Tryd.func6, Tryd.ntmps6
  go_wp2_with fail
  have hc3 : ∀ A B C, (((w.alloc A).alloc B).alloc C).cell? ⟨n, 5, none⟩ = some (.string vr) := fun A B C => ((((Below.refl w.heap.size w).alloc (Nat.le_refl _) A).alloc (by simp) B).alloc (by simp; omega) C).cell (p := ⟨n, 5, none⟩) hn |>.trans hc
  refine (newVariables_other n vr _ (hc3 _ _ _) (by simp; omega) h1 h2).mono ?_
  rintro e w' ⟨rfl, rfl⟩
  clear hc3
  go_wp2_with fail
  go_region
  go_wp2
  exact bodyPost_ret (v := .tuple #[.agg #[.int .u8 0, .int .i32 0, .string vr], .agg #[.int .u8 0, .int .i32 0, .string ⟨#[84, 121, 112, 101]⟩], .agg #[.int .u8 0, .int .i32 0, .string ⟨#[85, 115, 101, 114]⟩], .slice none 0 0, .pointer none, .map none]) (by simp [results, Tryd.results6, go_sem]) rfl ⟨rfl, (below6 _ _ _ _ _ _ _)⟩

set_option maxHeartbeats 4000000 in
theorem ZZnew_type (n : Nat) (w : World) (hc : w.cell? ⟨n, 5, none⟩ = some (.string ⟨#[84, 121, 112, 101]⟩)) (hn : n < w.heap.size) :
    Calls Tryd.prog 6 #[.pointer (some ⟨n, 0, none⟩)] w fun e w' => e = .returned (.tuple #[.agg #[.int .u8 0, .int .i32 0, .string ⟨#[84, 121, 112, 101, 50]⟩], .agg #[.int .u8 0, .int .i32 0, .string ⟨#[84, 121, 112, 101]⟩], .agg #[.int .u8 0, .int .i32 0, .string ⟨#[85, 115, 101, 114]⟩], .slice none 0 0, .pointer none, .map none]) ∧ Below w.heap.size w w' := by
  go_enter Tryd.func6, Tryd.ntmps6
  go_wp2_with fail
  have hc3 : ∀ A B C, (((w.alloc A).alloc B).alloc C).cell? ⟨n, 5, none⟩ = some (.string ⟨#[84, 121, 112, 101]⟩) := fun A B C => ((((Below.refl w.heap.size w).alloc (Nat.le_refl _) A).alloc (by simp) B).alloc (by simp; omega) C).cell (p := ⟨n, 5, none⟩) hn |>.trans hc
  refine (newVariables_type n _ (hc3 _ _ _) (by simp; omega)).mono ?_
  rintro e w' ⟨rfl, rfl⟩
  clear hc3
  go_wp2_with fail
  go_region
  go_wp2
  exact bodyPost_ret (v := .tuple #[.agg #[.int .u8 0, .int .i32 0, .string ⟨#[84, 121, 112, 101, 50]⟩], .agg #[.int .u8 0, .int .i32 0, .string ⟨#[84, 121, 112, 101]⟩], .agg #[.int .u8 0, .int .i32 0, .string ⟨#[85, 115, 101, 114]⟩], .slice none 0 0, .pointer none, .map none]) (by simp [results, Tryd.results6, go_sem]) rfl ⟨rfl, (below6 _ _ _ _ _ _ _).drew⟩

set_option maxHeartbeats 4000000 in
theorem ZZnew_user (n : Nat) (w : World) (hc : w.cell? ⟨n, 5, none⟩ = some (.string ⟨#[85, 115, 101, 114]⟩)) (hn : n < w.heap.size) :
    Calls Tryd.prog 6 #[.pointer (some ⟨n, 0, none⟩)] w fun e w' => e = .returned (.tuple #[.agg #[.int .u8 0, .int .i32 0, .string ⟨#[85, 115, 101, 114, 50]⟩], .agg #[.int .u8 0, .int .i32 0, .string ⟨#[84, 121, 112, 101]⟩], .agg #[.int .u8 0, .int .i32 0, .string ⟨#[85, 115, 101, 114]⟩], .slice none 0 0, .pointer none, .map none]) ∧ Below w.heap.size w w' := by
  go_enter Tryd.func6, Tryd.ntmps6
  go_wp2_with fail
  have hc3 : ∀ A B C, (((w.alloc A).alloc B).alloc C).cell? ⟨n, 5, none⟩ = some (.string ⟨#[85, 115, 101, 114]⟩) := fun A B C => ((((Below.refl w.heap.size w).alloc (Nat.le_refl _) A).alloc (by simp) B).alloc (by simp; omega) C).cell (p := ⟨n, 5, none⟩) hn |>.trans hc
  refine (newVariables_user n _ (hc3 _ _ _) (by simp; omega)).mono ?_
  rintro e w' ⟨rfl, rfl⟩
  clear hc3
  go_wp2_with fail
  go_region
  go_wp2
  exact bodyPost_ret (v := .tuple #[.agg #[.int .u8 0, .int .i32 0, .string ⟨#[85, 115, 101, 114, 50]⟩], .agg #[.int .u8 0, .int .i32 0, .string ⟨#[84, 121, 112, 101]⟩], .agg #[.int .u8 0, .int .i32 0, .string ⟨#[85, 115, 101, 114]⟩], .slice none 0 0, .pointer none, .map none]) (by simp [results, Tryd.results6, go_sem]) rfl ⟨rfl, (below6 _ _ _ _ _ _ _).drew⟩

end Go.Proofs.Qxb6612176aDoor
