/- From the reading of a []string that came in to what the walks want. -/
import Derived.Test.Qxb6605703aRows
import Derived.Test.Qxb6605703aTriples
import Derived.SliceStrings
namespace Go.Proofs.Qxb6605703a
open Go.ChangeShapes Go.WideShapes Go.ChangeAt Go.RowKit

theorem Try.cells9 : Try.prog.cellsOf 9 = 1 := by kernel_rfl

/-- A []string that came in: nil; or len strings ss (of an empty one nothing is known). -/
def IsStrs (w : World) (a : Option Addr) (len cap : Nat) (ss : Nat → ByteArray) : Prop :=
  (a = none ∧ len = 0 ∧ cap = 0) ∨
  ∃ x, a = some x ∧ len ≤ 9223372036854775807 ∧ (∀ i, (ss i).size ≤ 9223372036854775807) ∧
    (0 < len → x.spot = none ∧ x.block < w.heap.size ∧ ∀ i, i < len → w.cell? ⟨x.block, x.off + i, none⟩ = some (.string (ss i)))

theorem isStrs {H : Type} {enc : TypeId × Value → H} {w : World} {fuel : Nat} {a : Option Addr} {len cap : Nat} {y : DataW H × List MemPlace}
    (h : DataW.trod enc Try.prog w 0 (fun _ => true) true fuel 22 [.slice a len cap] = some y) : ∃ ss, IsStrs w a len cap ss := by
  rcases open_strings Try.underlying22 Try.underlying9 Try.cells9 h with ⟨hcs, _⟩ | ⟨x, l, c, ss, hcs, _, hl, hm, hz, _, hcell, hws⟩
  · simp at hcs
    obtain ⟨rfl, rfl, rfl⟩ := hcs
    exact ⟨fun _ => ByteArray.empty, .inl ⟨rfl, rfl, rfl⟩⟩
  · simp at hcs
    obtain ⟨rfl, rfl, rfl⟩ := hcs
    simp only [if_true] at hz
    have hmx : len ≤ 9223372036854775807 := by unfold maxLen at hm; omega
    refine ⟨fun i => ss.getD i ByteArray.empty, .inr ⟨x, rfl, hmx, fun i => ?_, fun h0 => ?_⟩⟩
    · by_cases e : i < ss.length
      · have := hws ss[i] (List.getElem_mem e)
        unfold maxLen at this
        simpa [List.getD, e] using this
      · simp [List.getD, e]
    · have h00 := hcell 0 (by omega)
      obtain ⟨b, off, spot⟩ := x
      have hspot : spot = none := by simpa [Addr.add] using World.cell?_spot h00
      subst hspot
      refine ⟨rfl, ?_, fun i hi => ?_⟩
      · have := World.block_lt_of_cell? w _ h00
        simpa [Addr.add] using this
      · have := hcell i (by omega)
        rw [add_plain] at this
        exact this
end Go.Proofs.Qxb6605703a
