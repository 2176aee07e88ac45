/- Small facts on worlds. -/
import Derived.WalkKit
import Derived.Deep.Draws
import Derived.Deep.MidRow
namespace Go.Proofs.Qxb6605773a
open Go Go.RowKit

theorem hide {p : Prop} (h : p) : Hid p := h

theorem cell_far (w : World) (b i j : Nat) (v : Value) (h : i ≠ j) : (w.setCell ⟨b, i, none⟩ v).cell? ⟨b, j, none⟩ = w.cell? ⟨b, j, none⟩ :=
  World.cell?_setCell_other _ _ _ _ (fun e => h (congrArg Addr.off e))

theorem all_succ {P : Nat → Prop} {k : Nat} (h : ∀ i, i < k → P i) (hk : P k) : ∀ i, i < k + 1 → P i := fun i hi => by
  by_cases e : i = k
  · subst e; exact hk
  · exact h i (by omega)

theorem grown_trans {a w w' : World} {r : Option Nat} (h : a.grownBy w r) (k : w.grownBy w' r) : a.grownBy w' r :=
  ⟨k.os.trans h.os, k.tape.trans h.tape, k.output.trans h.output, Nat.le_trans h.size k.size, fun i hi hr => (k.block i (Nat.lt_of_lt_of_le hi h.size) hr).trans (h.block i hi hr)⟩

/-- The numbers zs, as cells. -/
def ints (zs : List Int) : List Value := zs.map (Value.int .i64)
theorem ints_length (zs : List Int) : (ints zs).length = zs.length := by simp [ints]
theorem ints_get (zs : List Int) (j : Nat) (h : j < zs.length) : (ints zs)[j]? = some (.int .i64 (zs.getD j 0)) := by simp [ints, h]
theorem ints_set (zs : List Int) (j : Nat) (t : Int) : (ints zs).set j (.int .i64 t) = ints (zs.set j t) := by simp [ints, List.map_set]
theorem ints_append (a b : List Int) : ints (a ++ b) = ints a ++ ints b := by simp [ints]

/-- A block of cells of one type is no row of another. -/
theorem own_ne {w : World} {B : Nat} {e T : TypeId} {v : Value} {n : Nat} {xs : List Value} {b : Nat} {cs : Array Value} {fr : Nat × Nat} (hown : w.ownsRow B e 1 v n xs) (hb : w.heap[b]? = some (.cells cs T fr)) (hTe : T ≠ e) : v.ownBlock ≠ some b := by
  rcases hown.2 with ⟨rfl, _⟩ | ⟨g, cap, cur, rfl, _, hg, _⟩
  · simp [Value.ownBlock]
  · intro h
    simp only [Value.ownBlock, Option.some.injEq] at h
    subst h
    rw [hg] at hb
    simp only [Option.some.injEq, Obj.cells.injEq] at hb
    exact hTe hb.2.1.symm

theorem own_form {w : World} {B : Nat} {e : TypeId} {v : Value} {n : Nat} {xs : List Value} (hown : w.ownsRow B e 1 v n xs) : ∃ a cap, v = .slice a n cap := by
  rcases hown.2 with ⟨rfl, rfl⟩ | ⟨g, cap, cur, rfl, _⟩
  · exact ⟨_, _, rfl⟩
  · exact ⟨_, _, rfl⟩

theorem own_some {w : World} {B : Nat} {e : TypeId} {v : Value} {n : Nat} {xs : List Value} (hown : w.ownsRow B e 1 v n xs) (hn : 0 < n) : ∃ g cap, v = .slice (some ⟨g, 0, none⟩) n cap ∧ B ≤ g ∧ g < w.heap.size := by
  rcases hown.2 with ⟨_, h⟩ | ⟨g, cap, cur, rfl, h1, h2, _⟩
  · omega
  · exact ⟨_, _, rfl, h1, (Array.getElem?_eq_some_iff.1 h2).1⟩

theorem heap_lt {w : World} {b : Nat} {o : Obj} (h : w.heap[b]? = some o) : b < w.heap.size := (Array.getElem?_eq_some_iff.1 h).1
theorem cell_heap {w : World} {b : Nat} {cs : Array Value} {T : TypeId} {fr : Nat × Nat} (hb : w.heap[b]? = some (.cells cs T fr)) (j : Nat) : w.cell? ⟨b, j, none⟩ = cs[j]? := by simp [World.cell?, hb]
theorem frozen_heap {w : World} {b : Nat} {cs : Array Value} {T : TypeId} (hb : w.heap[b]? = some (.cells cs T (0, 0))) (j : Nat) : w.frozen? ⟨b, j, none⟩ = false := by simp [World.frozen?, hb]
theorem below_dN {B : Nat} {a w : World} (n : Nat) (h : Below B a w) : Below B a (w.drewN n) := ⟨h.os, h.tape, h.output, h.size, h.block⟩
theorem own_dN {w : World} {B : Nat} {e : TypeId} {v : Value} {k : Nat} {xs : List Value} (n : Nat) (h : w.ownsRow B e 1 v k xs) : (w.drewN n).ownsRow B e 1 v k xs := h
end Go.Proofs.Qxb6605773a
