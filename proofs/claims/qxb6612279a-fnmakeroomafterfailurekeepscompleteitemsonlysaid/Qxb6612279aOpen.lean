/- Shared openings of the seat's arguments: a []byte, a [256]bool. -/
import Derived.Test.Qxb6612279aRunLaw
import Derived.WalkKit
import Derived.ProofKit
import Derived.OpenShut
import Derived.ShutString
import Derived.ChangeOld
import Derived.Below
namespace Go.Proofs.Qxb6612279a
open Go.ChangeShapes Go.WideShapes Go.ChangeAt Go.RowKit

theorem own : ownKnob Try.prog.godebug = none := by kernel_rfl
theorem laidOut : laidOutB Try.prog = true := by kernel_rfl

/-- WHAT THE WALK IS TOLD OF A []byte THAT CAME IN: it is nil; or the bytes z lie at its address. -/
def IsBytes (w : World) (a : Option Addr) (len cap : Nat) (z : Nat → Nat) : Prop :=
  len ≤ maxLen ∧ ((a = none ∧ len = 0 ∧ cap = 0) ∨ ∃ x, a = some x ∧ len ≤ cap ∧ cap ≤ maxLen ∧ Src w x len z)

theorem open_bytes {H : Type} {enc : TypeId × Value → H} {W : World} {a0 : Option Addr} {len0 cap0 : Nat} {d : DataW H} {p : List MemPlace}
    (h : DataW.Trod enc Try.prog W 0 (fun _ => true) true 22 (.slice a0 len0 cap0) d p) : ∃ z, IsBytes W a0 len0 cap0 z := by
  obtain ⟨fuel, hf⟩ := h
  rcases open_ints Try.underlying22 Try.underlying5 (by kernel_rfl) hf with ⟨hcs, _⟩ | ⟨x, l, c, zs, hcs, _, hl, hm, hz, _, hcell, hwz⟩
  · simp [Value.cells] at hcs
    obtain ⟨rfl, rfl, rfl⟩ := hcs
    exact ⟨fun _ => 0, Nat.zero_le _, .inl ⟨rfl, rfl, rfl⟩⟩
  · simp [Value.cells] at hcs
    obtain ⟨rfl, rfl, rfl⟩ := hcs
    have hz' : zs.length = cap0 := by simpa using hz
    refine ⟨fun i => (zs.getD i 0).toNat, Nat.le_trans hl hm, .inr ⟨_, rfl, hl, hm, fun i hi => ?_⟩⟩
    have hb : 0 ≤ zs.getD i 0 ∧ zs.getD i 0 ≤ 255 := by
      have := range_u8 hwz i
      simpa using this
    have e : (((zs.getD i 0).toNat : Nat) : Int) = zs.getD i 0 := by omega
    refine ⟨show (zs.getD i 0).toNat < 256 by omega, ?_⟩
    show _ = some (Value.int .u8 (((zs.getD i 0).toNat : Nat) : Int))
    rw [e]
    exact hcell i (Nat.lt_of_lt_of_le (Nat.lt_of_lt_of_le hi hl) (Nat.le_of_eq hz'.symm))

theorem open_table {H : Type} {enc : TypeId × Value → H} {W : World} {base : Nat} {v : Value} {d : DataW H} {p : List MemPlace}
    (hv : Value.okWide Try.prog W .any base 23 v) (h : DataW.Trod enc Try.prog W 0 (fun _ => true) true 23 v d p) :
    ∃ (cs : Array Value) (ks : Nat → Bool), v = .agg cs ∧ cs.size = 256 ∧ ∀ i, i < 256 → cs[i]? = some (.bool (ks i)) := by
  have c23 : Try.prog.cellsOf 23 = 256 := by kernel_rfl
  have c4 : Try.prog.cellsOf 4 = 1 := by kernel_rfl
  unfold Value.okWide at hv
  rw [Try.underlying23] at hv
  obtain ⟨cs, rfl, hsz, _⟩ := hv
  rw [c23] at hsz
  obtain ⟨fuel, hf⟩ := h
  obtain ⟨xs, m, _, _, hl, hx, he⟩ := DataW.trod_array Try.underlying23 hf
  have hb : ∀ i, i < 256 → ∃ b, cs[i]? = some (.bool b) := by
    intro i hi
    have h1 := he i hi
    rw [c4] at h1
    have hi2 : i < xs.length := by omega
    rw [List.getElem?_eq_getElem hi2] at h1
    obtain ⟨b, hb, _⟩ := DataW.trod_bool Try.underlying4 h1
    refine ⟨b, ?_⟩
    have hc : i < cs.size := by omega
    simp only [Value.cells, Nat.mul_one] at hb
    rw [List.drop_eq_getElem_cons (by simpa using hc)] at hb
    simp at hb
    rw [Array.getElem?_eq_getElem hc, hb]
  refine ⟨cs, fun i => match cs[i]? with | some (.bool b) => b | _ => false, rfl, hsz, fun i hi => ?_⟩
  obtain ⟨b, hb⟩ := hb i hi
  simp only [hb]

end Go.Proofs.Qxb6612279a
