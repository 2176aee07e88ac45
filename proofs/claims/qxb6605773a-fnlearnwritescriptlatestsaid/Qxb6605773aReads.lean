/- From the readings of the arguments to what the walks want. -/
import Derived.Test.Qxb6605773aRows
import Derived.Test.Qxb6605773aCloneInts
import Derived.WalkKit
import Derived.ProofKit
import Derived.OpenShut
import Derived.ShutString
import Derived.ChangeOld
import Derived.Below
import Derived.Deep.Slices
namespace Go.Proofs.Qxb6605773a
open Go.ChangeShapes Go.WideShapes Go.ChangeAt Go.RowKit Go.Deep

theorem own : ownKnob Try.prog.godebug = none := by kernel_rfl
theorem laidOut : laidOutB Try.prog = true := by kernel_rfl

theorem isInts {H : Type} {enc : TypeId × Value → H} {w : World} {fuel : Nat} {a : Option Addr} {len cap : Nat} {y : DataW H × List MemPlace}
    (h : DataW.trod enc Try.prog w 0 (fun _ => true) true fuel 22 [.slice a len cap] = some y) : ∃ zs, IsInts w a len cap zs := by
  rcases open_ints Try.underlying22 Try.underlying2 (by kernel_rfl) h with ⟨hcs, _⟩ | ⟨x, l, c, zs, hcs, _, hl, hm, hz, _, hcell, hwz⟩
  · simp at hcs
    obtain ⟨rfl, rfl, rfl⟩ := hcs
    exact ⟨[], rfl, .inl ⟨rfl, rfl, rfl⟩⟩
  · simp at hcs
    obtain ⟨rfl, rfl, rfl⟩ := hcs
    simp only [if_true] at hz
    have hmx : len ≤ 9223372036854775807 := by unfold maxLen at hm; omega
    refine ⟨zs.take len, by rw [List.length_take]; omega, .inr ⟨x, rfl, hmx, fun h0 => ?_⟩⟩
    have h00 := hcell 0 (by omega)
    obtain ⟨b, off, spot⟩ := x
    have hspot : spot = none := by simpa [Addr.add] using World.cell?_spot h00
    subst hspot
    refine ⟨rfl, ?_, fun i hi => ?_⟩
    · have := World.block_lt_of_cell? w _ h00
      simpa [Addr.add] using this
    · have := hcell i (by omega)
      rw [add_plain] at this
      rw [this]
      simp only [List.getD_eq_getElem?_getD, List.getElem?_take, if_pos hi]
end Go.Proofs.Qxb6605773a
