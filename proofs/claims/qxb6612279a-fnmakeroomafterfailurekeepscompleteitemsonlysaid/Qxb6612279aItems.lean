/- The walks of ItemBuffer (seat b6612279a). -/
import Derived.Test.Qxb6612279aWrite
namespace Go.Proofs.Qxb6612279a
open Go.RowKit

def zeroRow : Array Value := madeCells #[.int .u8 0] 66560
theorem make66560 (w : World) : (Instr.makeSlice 22 (.int .i64 0) (.int .i64 66560)).run Try.prog w = .ok (.slice (some ⟨w.heap.size, 0, none⟩) 0 66560) (w.alloc (.cells zeroRow 5)) := by
  obtain ⟨i0, hi, hz0, hz1, hz2⟩ := info_parts info5
  have h := run_makeSlice (P := Try.prog) w 22 5 i0 (.int .u8 0) Try.underlying22 hi hz0 .i64 .i64 0 66560 (by omega) (by omega) (by rw [hz1]; decide) (by rw [hz2]; decide) (by decide)
  rw [hz1] at h
  exact h

theorem miss_of (want : Array (String × TypeId)) (got : Array Method) (x : String) (h : (want.toList.filter fun (name, sig) => !got.any fun m => m.name == name && m.sig == sig).map (·.1) = [x]) : ∃ m, Instr.missingMethod want got = some m := by
  unfold Instr.missingMethod
  simp only [h]
  cases hc : x.contains '.' <;> simp [List.partition, List.partition.loop, hc, Instr.least]
theorem isSome29 : (Try.prog.info? 29).isSome = true := by kernel_rfl
theorem info29 : ∃ i, Try.prog.info? 29 = some i ∧ (#[("Write", 69), ("WritePart", 69)].toList.filter fun (name, sig) => !i.methods.any fun m => m.name == name && m.sig == sig).map (·.1) = ["WritePart"] :=
  ⟨_, (Option.some_get isSome29).symm, by kernel_rfl⟩
theorem assert49 (a : Addr) (w : World) : (Instr.typeAssert (.iface 29 (.pointer (some a))) 64 49 true).run Try.prog w = .ok (.tuple #[.nilIface, .bool false]) w := by
  obtain ⟨i, hi, hm⟩ := info29
  obtain ⟨m, hmm⟩ := miss_of _ i.methods _ hm
  simp [Instr.typeAssert, Sem.run_bind, run_underlying Try.underlying49, typeInfo, hi, hmm]

/-- What a plainWriter over the buffer in block b reads as, as an ItemWriter. -/
def dstOf (b : Nat) : Value := .iface 67 (.agg #[.iface 29 (.pointer (some ⟨b, 0, none⟩))])

/-- The world behind NewItemBuffer(out), out in block b. -/
def newW (w : World) (b : Nat) : World := (w.alloc (.cells #[dstOf b, .slice (some ⟨w.heap.size + 1, 0, none⟩) 0 66560, .int .i64 (-1), .nilIface] 51)).alloc (.cells zeroRow 5)

set_option maxHeartbeats 400000 in
theorem NewItemBuffer_any (b : Nat) (w : World) : Calls Try.prog 38 #[.iface 29 (.pointer (some ⟨b, 0, none⟩))] w fun e w' =>
    e = .returned (.agg #[dstOf b, .slice (some ⟨w.heap.size + 1, 0, none⟩) 0 66560, .int .i64 (-1), .nilIface]) ∧ w' = newW w b := by
  have mk := make66560
  have ta := assert49
  go_enter Try.func38, Try.ntmps38
  go_wp2
  exact bodyPost_ret (v := .agg #[dstOf b, .slice (some ⟨w.heap.size + 1, 0, none⟩) 0 66560, .int .i64 (-1), .nilIface]) (by simp [results, Try.results38, go_sem, dstOf]) rfl ⟨rfl, rfl⟩

/-- The world behind ZZNewToBuffer. -/
def freshW (w : World) : World := (newW (w.alloc (.cells #[.slice none 0 0, .int .i64 0, .int .i8 0] 57)) w.heap.size).alloc (.cells #[dstOf w.heap.size, .slice (some ⟨w.heap.size + 1 + 1, 0, none⟩) 0 66560, .int .i64 (-1), .nilIface] 51)

set_option maxHeartbeats 400000 in
theorem New_any (w : World) : Calls Try.prog 32 #[] w fun e w' => e = .returned (.tuple #[.pointer (some ⟨w.heap.size + 1 + 1 + 1, 0, none⟩), .pointer (some ⟨w.heap.size, 0, none⟩)]) ∧ w' = freshW w := by
  go_enter Try.func32, Try.ntmps32
  go_wp2_with fail
  refine (NewItemBuffer_any w.heap.size _).mono ?_
  rintro e w' ⟨rfl, hw⟩
  rw [show newW (w.alloc (.cells #[.slice none 0 0, .int .i64 0, .int .i8 0] 57)) w.heap.size = ((w.alloc (.cells #[.slice none 0 0, .int .i64 0, .int .i8 0] 57)).alloc (.cells #[dstOf w.heap.size, .slice (some ⟨w.heap.size + 1 + 1, 0, none⟩) 0 66560, .int .i64 (-1), .nilIface] 51)).alloc (.cells zeroRow 5) by simp [newW]] at hw
  subst hw
  unfold dstOf
  go_wp2_with fail
  go_ret2
  refine ⟨rfl, ?_⟩
  simp [freshW, newW, dstOf]

end Go.Proofs.Qxb6612279a
