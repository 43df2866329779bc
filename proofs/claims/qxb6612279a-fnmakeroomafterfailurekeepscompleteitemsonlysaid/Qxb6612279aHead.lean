/- Three closed facts on the program's head, reckoned over the head's signs laid out as numbers: straight through the string they cost the kernel some 10 GB each. -/
import Derived.Test.Qxb6612279aRows
import Derived.JoinedOf
import Derived.KernelRfl
namespace Go.Proofs.Qxb6612279a
open Go
set_option maxRecDepth 100000
def headN : List Nat := [104, 97, 114, 110, 101, 115, 115, 32, 53, 50, 49, 102, 102, 102, 100, 97, 50, 102, 101, 51, 101, 99, 53, 55, 98, 101, 57, 52, 54, 102, 53, 50, 98, 99, 52, 99, 50, 57, 53, 52, 57, 53, 51, 99, 100, 52, 100, 56, 51, 54, 99, 100, 49, 97, 53, 97, 98, 53, 51, 101, 48, 97, 57, 55, 99, 100, 52, 102, 51, 101, 97, 99, 32, 99, 117, 116, 32, 97, 116, 32, 101, 120, 97, 109, 112, 108, 101, 46, 99, 111, 109, 47, 110, 111, 116, 101, 115, 45, 111, 110, 45, 110, 111, 100, 101, 115, 47, 110, 111, 116, 101, 115, 45, 111, 110, 45, 110, 111, 100, 101, 115, 47, 122, 122, 108, 97, 119, 115, 95, 114, 111, 111, 116, 95, 98, 49, 46, 70, 110, 82, 117, 110, 76, 101, 110, 73, 115, 76, 111, 110, 103, 101, 115, 116, 75, 101, 112, 116, 80, 114, 101, 102, 105, 120, 32, 101, 120, 97, 109, 112, 108, 101, 46, 99, 111, 109, 47, 110, 111, 116, 101, 115, 45, 111, 110, 45, 110, 111, 100, 101, 115, 47, 110, 111, 116, 101, 115, 45, 111, 110, 45, 110, 111, 100, 101, 115, 47, 122, 122, 108, 97, 119, 115, 95, 114, 111, 111, 116, 95, 98, 49, 46, 70, 110, 82, 117, 110, 76, 101, 110, 79, 102, 66, 111, 116, 104, 73, 115, 76, 101, 97, 115, 116, 79, 102, 69, 97, 99, 104, 32, 101, 120, 97, 109, 112, 108, 101, 46, 99, 111, 109, 47, 110, 111, 116, 101, 115, 45, 111, 110, 45, 110, 111, 100, 101, 115, 47, 110, 111, 116, 101, 115, 45, 111, 110, 45, 110, 111, 100, 101, 115, 47, 122, 122, 108, 97, 119, 115, 95, 114, 111, 111, 116, 95, 98, 49, 46, 70, 110, 66, 117, 102, 102, 101, 114, 72, 111, 108, 100, 115, 87, 104, 97, 116, 73, 115, 78, 111, 116, 87, 114, 105, 116, 116, 101, 110, 79, 117, 116, 32, 101, 120, 97, 109, 112, 108, 101, 46, 99, 111, 109, 47, 110, 111, 116, 101, 115, 45, 111, 110, 45, 110, 111, 100, 101, 115, 47, 110, 111, 116, 101, 115, 45, 111, 110, 45, 110, 111, 100, 101, 115, 47, 122, 122, 108, 97, 119, 115, 95, 114, 111, 111, 116, 95, 98, 49, 46, 70, 110, 66, 117, 102, 102, 101, 114, 65, 103, 114, 101, 101, 115, 87, 105, 116, 104, 77, 97, 107, 101, 82, 111, 111, 109, 79, 110, 99, 101, 70, 117, 108, 108, 32, 101, 120, 97, 109, 112, 108, 101, 46, 99, 111, 109, 47, 110, 111, 116, 101, 115, 45, 111, 110, 45, 110, 111, 100, 101, 115, 47, 110, 111, 116, 101, 115, 45, 111, 110, 45, 110, 111, 100, 101, 115, 47, 122, 122, 108, 97, 119, 115, 95, 114, 111, 111, 116, 95, 98, 49, 46, 70, 110, 77, 97, 107, 101, 82, 111, 111, 109, 87, 114, 105, 116, 101, 115, 67, 111, 109, 112, 108, 101, 116, 101, 73, 116, 101, 109, 115, 75, 101, 101, 112, 115, 79, 112, 101, 110, 79, 110, 101, 32, 101, 120, 97, 109, 112, 108, 101, 46, 99, 111, 109, 47, 110, 111, 116, 101, 115, 45, 111, 110, 45, 110, 111, 100, 101, 115, 47, 110, 111, 116, 101, 115, 45, 111, 110, 45, 110, 111, 100, 101, 115, 47, 122, 122, 108, 97, 119, 115, 95, 114, 111, 111, 116, 95, 98, 49, 46, 70, 110, 77, 97, 107, 101, 82, 111, 111, 109, 65, 102, 116, 101, 114, 70, 97, 105, 108, 117, 114, 101, 75, 101, 101, 112, 115, 67, 111, 109, 112, 108, 101, 116, 101, 73, 116, 101, 109, 115, 79, 110, 108, 121, 32, 101, 120, 97, 109, 112, 108, 101, 46, 99, 111, 109, 47, 110, 111, 116, 101, 115, 45, 111, 110, 45, 110, 111, 100, 101, 115, 47, 110, 111, 116, 101, 115, 45, 111, 110, 45, 110, 111, 100, 101, 115, 47, 122, 122, 108, 97, 119, 115, 95, 114, 111, 111, 116, 95, 98, 49, 46, 70, 110, 73, 110, 110, 101, 114, 77, 97, 107, 101, 82, 111, 111, 109, 69, 120, 97, 99, 116, 87, 104, 101, 114, 101, 70, 117, 108, 108, 32, 101, 120, 97, 109, 112, 108, 101, 46, 99, 111, 109, 47, 110, 111, 116, 101, 115, 45, 111, 110, 45, 110, 111, 100, 101, 115, 47, 110, 111, 116, 101, 115, 45, 111, 110, 45, 110, 111, 100, 101, 115, 47, 122, 122, 108, 97, 119, 115, 95, 114, 111, 111, 116, 95, 98, 49, 46, 70, 110, 73, 110, 110, 101, 114, 77, 97, 107, 101, 82, 111, 111, 109, 68, 114, 97, 105, 110, 115, 66, 101, 108, 111, 119, 70, 117, 108, 108]
def headL : List Char := headN.map Char.ofNat
theorem head_str : Try.prog.initOrder = String.ofList headL := by kernel_rfl
theorem head_chars : Try.prog.initOrder.toList = headL := by rw [head_str, String.toList_ofList]
theorem cons_of_head {α : Type} {l : List α} {a : α} (h : l.head? = some a) : l = a :: l.tail := by
  cases l with
  | nil => cases h
  | cons b t => simp only [List.head?_cons, Option.some.injEq] at h; subst h; rfl
theorem head_first : (behindMainWord (wordsSigns headL)).head? = some "cut".toList := by kernel_rfl
theorem words_of (P : Program) (L : List Char) (h : P.initOrder.toList = L) (c : List Char) (hc : (behindMainWord (wordsSigns L)).head? = some c) : ∃ rest, behindMainWord (wordsSigns P.initOrder.toList) = c :: rest :=
  ⟨_, by rw [h]; exact cons_of_head hc⟩
theorem head_words : ∃ rest, behindMainWord (wordsSigns Try.prog.initOrder.toList) = "cut".toList :: rest := words_of _ _ head_chars _ head_first
theorem strip_cut (ws : List (List Char)) : stripLifts liftWords ("cut".toList :: ws) = ([], "cut".toList :: ws) := by kernel_rfl
theorem lifts_of (P : Program) (h : ∃ rest, behindMainWord (wordsSigns P.initOrder.toList) = "cut".toList :: rest) : P.headLifts = [] := by
  obtain ⟨rest, h⟩ := h
  unfold Program.headLifts
  rw [h, strip_cut]
  rfl
theorem mayEnter_of (P : Program) (h : ∃ rest, behindMainWord (wordsSigns P.initOrder.toList) = "cut".toList :: rest) (h1 : P.laysLater = false) (h2 : P.bearsReflect = false) (h3 : P.doorFits [] = true) : P.mayEnter = true := by
  obtain ⟨rest, h⟩ := h
  unfold Program.mayEnter
  rw [h]
  simp only [strip_cut, h1, h2, h3]
  rfl
theorem liftsFinal_of (P : Program) (h : ∃ rest, behindMainWord (wordsSigns P.initOrder.toList) = "cut".toList :: rest) : P.liftsFinal = false := by
  have hl := lifts_of P h
  obtain ⟨rest, h⟩ := h
  unfold Program.liftsFinal
  rw [h, hl]
  rfl
theorem make_of (P : Program) (h : ∃ rest, behindMainWord (wordsSigns P.initOrder.toList) = "cut".toList :: rest) : P.make = some .cut := by
  obtain ⟨rest, h⟩ := h
  unfold Program.make
  rw [h]
  rfl
theorem head_mayEnter : Try.prog.mayEnter = true := mayEnter_of _ head_words (by kernel_rfl) (by kernel_rfl) (by kernel_rfl)
theorem head_liftsFinal : Try.prog.liftsFinal = false := liftsFinal_of _ head_words
theorem head_make : Try.prog.make = some .cut := make_of _ head_words
end Go.Proofs.Qxb6612279a
