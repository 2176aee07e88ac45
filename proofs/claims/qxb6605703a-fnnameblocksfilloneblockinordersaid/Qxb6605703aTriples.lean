/- From the reading of a [][3]uint64 that came in to what the walks want. -/
import Derived.Test.Qxb6605703aRows
import Derived.WalkKit
import Derived.ProofKit
import Derived.OpenShut
import Derived.ShutString
import Derived.ChangeOld
import Derived.Below
import Derived.Deep.Slices
import Derived.DataReads
namespace Go.Proofs.Qxb6605703a
open Go.ChangeShapes Go.WideShapes Go.ChangeAt Go.RowKit Go.Deep

theorem own : ownKnob Try.prog.godebug = none := by kernel_rfl
theorem laidOut : laidOutB Try.prog = true := by kernel_rfl
theorem Try.cells38 : Try.prog.cellsOf 38 = 3 := by kernel_rfl
theorem Try.cells37 : Try.prog.cellsOf 37 = 1 := by kernel_rfl

/-- A [][3]uint64 that came in: nil; or len triples z (of an empty one nothing is known). -/
def IsTriples (w : World) (a : Option Addr) (len cap : Nat) (z : Nat → Nat → Nat) : Prop :=
  (a = none ∧ len = 0 ∧ cap = 0) ∨
  ∃ x, a = some x ∧ len ≤ 9223372036854775807 ∧ (∀ i j, z i j < 18446744073709551616) ∧
    (0 < len → x.spot = none ∧ x.block < w.heap.size ∧ ∀ i j, i < len → j < 3 → w.cell? ⟨x.block, x.off + i * 3 + j, none⟩ = some (.int .u64 (z i j)))

theorem triple {H : Type} {enc : TypeId × Value → H} {w : World} {spare : Nat → Bool} {held : Bool} {fuel : Nat} {cs : List Value} {y : DataW H × List MemPlace}
    (h : DataW.trod enc Try.prog w 0 spare held fuel 38 cs = some y) : cs.length = 3 ∧ ∃ u : Nat → Nat, (∀ j, u j < 18446744073709551616) ∧ ∀ j, j < 3 → cs[j]? = some (.int .u64 (u j)) := by
  obtain ⟨xs, m, _, _, hl, hn, hx⟩ := DataW.trod_array Try.underlying38 h
  rw [Try.cells38] at hl
  simp only [Try.cells37] at hx
  refine ⟨hl, ?_⟩
  obtain ⟨u, hu⟩ := choose_lt (α := Nat) (n := 3) (p := fun j n => n < 18446744073709551616 ∧ cs[j]? = some (.int .u64 n)) (fun j hj => by
    have h1 := hx j hj
    rw [List.getElem?_eq_getElem (show j < xs.length by omega)] at h1
    obtain ⟨n, hc, _, hw⟩ := DataW.trod_int Try.underlying37 h1
    have hb := bounds_u64 hw
    obtain ⟨k, rfl⟩ := Int.eq_ofNat_of_zero_le hb.1
    refine ⟨k, by omega, ?_⟩
    have h2 := congrArg (fun l : List Value => l[0]?) hc
    simpa [List.getElem?_take, List.getElem?_drop] using h2)
  refine ⟨fun j => if j < 3 then u j else 0, fun j => ?_, fun j hj => ?_⟩
  · by_cases e : j < 3
    · simp only [if_pos e]; exact (hu j e).1
    · simp only [if_neg e]; omega
  · simp only [if_pos hj]; exact (hu j hj).2

theorem isTriples {H : Type} {enc : TypeId × Value → H} {w : World} {fuel : Nat} {a : Option Addr} {len cap : Nat} {y : DataW H × List MemPlace}
    (h : DataW.trod enc Try.prog w 0 (fun _ => true) true fuel 31 [.slice a len cap] = some y) : ∃ z, IsTriples w a len cap z := by
  rcases open_slice Try.underlying31 h with ⟨hcs, _⟩ | ⟨x, l, c, m, n, D, Pl, hcs, _, hl, hm, hmm, _, hx⟩
  · simp at hcs
    obtain ⟨rfl, rfl, rfl⟩ := hcs
    exact ⟨fun _ _ => 0, .inl ⟨rfl, rfl, rfl⟩⟩
  · simp at hcs
    obtain ⟨rfl, rfl, rfl⟩ := hcs
    simp only [if_true] at hmm
    subst hmm
    rw [Try.cells38] at hx
    obtain ⟨z, hz⟩ := choose_lt (α := Nat → Nat) (n := len) (p := fun i u => (∀ j, u j < 18446744073709551616) ∧ ∀ j, j < 3 → w.cell? (x.add (i * 3 + j)) = some (.int .u64 (u j))) (fun i hi => by
      obtain ⟨cs', h1, h2⟩ := hx i (by omega)
      obtain ⟨hl3, u, hu, hc⟩ := triple h2
      obtain ⟨_, _, hcell⟩ := World.cells?_some h1
      refine ⟨u, hu, fun j hj => ?_⟩
      rw [← add_add]
      rw [hcell j hj]
      exact hc j hj)
    have hmx : len ≤ 9223372036854775807 := by unfold maxLen at hm; omega
    refine ⟨fun i j => if i < len then z i j else 0, .inr ⟨x, rfl, hmx, fun i j => ?_, fun h0 => ?_⟩⟩
    · by_cases e : i < len
      · simp only [if_pos e]; exact (hz i e).1 j
      · simp only [if_neg e]; omega
    · have h00 := (hz 0 h0).2 0 (by omega)
      obtain ⟨b, off, spot⟩ := x
      have hspot : spot = none := by simpa [Addr.add] using World.cell?_spot h00
      subst hspot
      refine ⟨rfl, ?_, fun i j hi hj => ?_⟩
      · have := World.block_lt_of_cell? w _ h00
        simpa [Addr.add] using this
      · simp only [if_pos hi]
        have := (hz i hi).2 j hj
        rw [add_plain, ← Nat.add_assoc] at this
        exact this
end Go.Proofs.Qxb6605703a
