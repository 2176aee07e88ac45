/- The reading of a []ClockSetOp. -/
import Derived.Test.Qxb6605773aRows
import Derived.Test.Qxb6605773aReads
import Derived.Test.Qxb6605773aLast
import Derived.ChangeSame
import Derived.DataReads
namespace Go.Proofs.Qxb6605773a
open Go.ChangeShapes Go.WideShapes Go.ChangeAt Go.RowKit Go.Deep

theorem Try.cells29 : Try.prog.cellsOf 29 = 2 := by kernel_rfl
theorem Try.cells3 : Try.prog.cellsOf 3 = 1 := by kernel_rfl
theorem Try.cells2 : Try.prog.cellsOf 2 = 1 := by kernel_rfl

theorem two_of_len {α : Type} (l : List α) (h : l.length = 2) : ∃ a b, l = [a, b] := by
  match l, h with
  | [a, b], _ => exact ⟨a, b, rfl⟩

theorem opRead {H : Type} {enc : TypeId × Value → H} {w : World} {spare : Nat → Bool} {held : Bool} {fuel : Nat} {cs : List Value} {y : DataW H × List MemPlace}
    (h : DataW.trod enc Try.prog w 0 spare held fuel 29 cs = some y) : ∃ n t : Int, cs = [.int .i64 n, .int .i64 t] := by
  obtain ⟨y0, y1, m, _, hl, h0, h1⟩ := trod_struct2 Try.underlying29 h
  rw [Try.cells29] at hl
  obtain ⟨c0, c1, rfl⟩ := two_of_len cs hl
  simp only [Try.cells3, Try.cells2] at h0 h1
  obtain ⟨n, e0, _, _⟩ := DataW.trod_int Try.underlying3 h0
  obtain ⟨t, e1, _, _⟩ := DataW.trod_int Try.underlying2 h1
  simp at e0 e1
  exact ⟨n, t, by rw [e0, e1]⟩

theorem isOps {H : Type} {enc : TypeId × Value → H} {w : World} {fuel : Nat} {a : Option Addr} {len cap : Nat} {y : DataW H × List MemPlace}
    (h : DataW.trod enc Try.prog w 0 (fun _ => true) true fuel 26 [.slice a len cap] = some y) : ∃ N T, IsOps w a len N T := by
  rcases open_slice Try.underlying26 h with ⟨hcs, _⟩ | ⟨x, l, c, m, n, D, Pl, hcs, _, hl, hm, hmm, _, hx⟩
  · simp at hcs
    obtain ⟨rfl, rfl, rfl⟩ := hcs
    exact ⟨fun _ => 0, fun _ => 0, by omega, fun h => absurd h (by omega)⟩
  · simp at hcs
    obtain ⟨rfl, rfl, rfl⟩ := hcs
    simp only [if_true] at hmm
    subst hmm
    rw [Try.cells29] at hx
    obtain ⟨z, hz⟩ := choose_lt (α := Int × Int) (n := len) (p := fun i u => w.cell? (x.add (i * 2)) = some (.int .i64 u.1) ∧ w.cell? (x.add (i * 2 + 1)) = some (.int .i64 u.2)) (fun i hi => by
      obtain ⟨cs', h1, h2⟩ := hx i (by omega)
      obtain ⟨nv, tv, rfl⟩ := opRead h2
      obtain ⟨_, _, hcell⟩ := World.cells?_some h1
      refine ⟨(nv, tv), ?_, ?_⟩
      · have := hcell 0 (by omega)
        rw [add_add] at this
        simpa using this
      · have := hcell 1 (by omega)
        rw [add_add] at this
        simpa using this)
    refine ⟨fun i => (z i).1, fun i => (z i).2, by unfold maxLen at hm; omega, fun h0 => ?_⟩
    have h00 := (hz 0 h0).1
    obtain ⟨b, off, spot⟩ := x
    have hspot : spot = none := by simpa [Addr.add] using World.cell?_spot h00
    subst hspot
    refine ⟨b, off, rfl, ?_, fun i hi => ?_⟩
    · have := World.block_lt_of_cell? w _ h00
      simpa [Addr.add] using this
    · have h1 := (hz i hi).1
      have h2 := (hz i hi).2
      rw [add_plain] at h1 h2
      exact ⟨h1, by rw [Nat.add_assoc]; exact h2⟩
end Go.Proofs.Qxb6605773a
